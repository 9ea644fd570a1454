import PyProof.Rows.All
import Wide.All
import OpenK.AllK
import Wide.FinOn
import Lean
import PySem.Challenge.RW_ru0005_01
section
namespace Mine
noncomputable abbrev N.bo : Nat := 1068959721505206858819
noncomputable abbrev N.bp : Nat := 513980308879299
noncomputable abbrev N.bq : Nat := 448083713914820
noncomputable abbrev N.L : Nat := 1157061
noncomputable abbrev N.br : Nat := 58413374657803973
noncomputable abbrev N.bs : Nat := 3565269104453
noncomputable abbrev N.aG : Nat := 2220488392065177419009714760
noncomputable abbrev N.a4 : Nat := 19582557649073068274103874004218422578707130952
noncomputable abbrev N.bt : Nat := 1059527485209823719632
noncomputable abbrev N.bu : Nat := 36729176356849050818767274670163
noncomputable abbrev N.bv : Nat := 58413373311187539
noncomputable abbrev N.a5 : Nat := 245248724
noncomputable abbrev N.bn : Nat := 53902074141372383
noncomputable abbrev N.U : Nat := 76295154878212855130875912999137014111
noncomputable abbrev N.bw : Nat := 17516279484918466604462559
noncomputable abbrev N.bx : Nat := 8280377188729516511
noncomputable abbrev N.bz : Nat := 26283111007
noncomputable abbrev N.aR : Nat := 529404374068053937003840279051596383
noncomputable abbrev N.aS : Nat := 119035453484689906267359
noncomputable abbrev N.bA : Nat := 31125501407
noncomputable abbrev N.a6 : Nat := 12640056404502945969239647
noncomputable abbrev N.a7 : Nat := 81004679032044319700575
noncomputable abbrev N.a8 : Nat := 5659690465637201503
noncomputable abbrev N.a9 : Nat := 761329385583433774687
noncomputable abbrev N.ba : Nat := 98630384216267371869791
noncomputable abbrev N.bb : Nat := 6101008182186374751
noncomputable abbrev N.aT : Nat := 7843448788943926879
noncomputable abbrev N.aU : Nat := 7477016850857490015
noncomputable abbrev N.aV : Nat := 938749362540635518559
noncomputable abbrev N.ac : Nat := 940048690649910244959
noncomputable abbrev N.M : Nat := 1021909468891517056607
noncomputable abbrev N.aH : Nat := 7989288598043883615
noncomputable abbrev N.bB : Nat := 3465715398753
noncomputable abbrev N.aj : Nat := 17513836086727747049159137
noncomputable abbrev N.aW : Nat := 1058809711066642708961
noncomputable abbrev N.ao : Nat := 67732291979527064133583164614693960289
noncomputable abbrev N.aI : Nat := 297889770429636446208649489731886080364500854878946
noncomputable abbrev N.ak : Nat := 529158531092323144178770079257327586
noncomputable abbrev N.s : Nat := 99
noncomputable abbrev N.Q : Nat := 31098352355
noncomputable abbrev N.u : Nat := 240677987
noncomputable abbrev N.l : Nat := 7766325226209047651
noncomputable abbrev N.bc : Nat := 4479185100425797988183817959083408389219
noncomputable abbrev N.ag : Nat := 1068959721505206858851
noncomputable abbrev N.aJ : Nat := 31110755427
noncomputable abbrev N.N : Nat := 1003756016285699830883
noncomputable abbrev N.aK : Nat := 1881187
noncomputable abbrev N.z : Nat := 28955210851
noncomputable abbrev N.r : Nat := 137888533074495772914787
noncomputable abbrev N.w : Nat := 7346961567845282915
noncomputable abbrev N.ap : Nat := 529158531091405923781398542920971875
noncomputable abbrev N.G : Nat := 8421071042368845795
noncomputable abbrev N.aX : Nat := 1783779
noncomputable abbrev N.al : Nat := 3809077835747
noncomputable abbrev N.bd : Nat := 529158531092327830141554724886509539
noncomputable abbrev N.av : Nat := 513602362324963
noncomputable abbrev N.bC : Nat := 31371130851
noncomputable abbrev N.m : Nat := 16742964720396267771706083
noncomputable abbrev N.b : Nat := 205336804
noncomputable abbrev N.F : Nat := 7343549811154301156
noncomputable abbrev N.V : Nat := 1012394501969662521572
noncomputable abbrev N.aP : Nat := 65243986721059044
noncomputable abbrev N.aL : Nat := 244905188
noncomputable abbrev N.be : Nat := 15400540173579326202640356
noncomputable abbrev N.y : Nat := 1669860
noncomputable abbrev N.aw : Nat := 4494405369511484639996017943148261
noncomputable abbrev N.f : Nat := 1652581
noncomputable abbrev N.R : Nat := 30815106917
noncomputable abbrev N.bm : Nat := 32297273626065612125600514652005
noncomputable abbrev N.ax : Nat := 3982206220645
noncomputable abbrev N.aQ : Nat := 3500603406821
noncomputable abbrev N.O : Nat := 957058016376549603813
noncomputable abbrev N.X : Nat := 56743210558176357
noncomputable abbrev N.B : Nat := 31381566694
noncomputable abbrev N.ay : Nat := 217609830
noncomputable abbrev N.p : Nat := 4118833477606
noncomputable abbrev N.Y : Nat := 213628903
noncomputable abbrev N.bf : Nat := 938756632654307293673
noncomputable abbrev N.bD : Nat := 232421354
noncomputable abbrev N.ad : Nat := 107
noncomputable abbrev N.bE : Nat := 243167979
noncomputable abbrev N.n : Nat := 211530987
noncomputable abbrev N.ab : Nat := 2241766182530881068631650540
noncomputable abbrev N.az : Nat := 136797652631475044806892
noncomputable abbrev N.ah : Nat := 31920550124
noncomputable abbrev N.H : Nat := 1815276
noncomputable abbrev N.ae : Nat := 213628140
noncomputable abbrev N.aY : Nat := 4880625998731621868340768995539437336476859442535379181
noncomputable abbrev N.S : Nat := 443303111504109
noncomputable abbrev N.o : Nat := 3463297348333
noncomputable abbrev N.bg : Nat := 1815789
noncomputable abbrev N.aq : Nat := 110
noncomputable abbrev N.aZ : Nat := 3978714310254
noncomputable abbrev N.k : Nat := 213610734
noncomputable abbrev N.P : Nat := 65187255259362030
noncomputable abbrev N.Z : Nat := 4013084488559
noncomputable abbrev N.bh : Nat := 1012394501969689540719
noncomputable abbrev N.ai : Nat := 57371757568079983
noncomputable abbrev N.af : Nat := 1653103
noncomputable abbrev N.aa : Nat := 30815173231
noncomputable abbrev N.E : Nat := 3944365207792
noncomputable abbrev N.aA : Nat := 245149936
noncomputable abbrev N.am : Nat := 27321202288
noncomputable abbrev N.bF : Nat := 1849328
noncomputable abbrev N.a0 : Nat := 62416317172217840
noncomputable abbrev N.aM : Nat := 274472984344883046399189252080
noncomputable abbrev N.a1 : Nat := 15393527543770942380242928
noncomputable abbrev N.ar : Nat := 136772197156496051108208
noncomputable abbrev N.as : Nat := 17498570590891805742037360
noncomputable abbrev N.aB : Nat := 56619482765376240
noncomputable abbrev N.au : Nat := 114
noncomputable abbrev N.bi : Nat := 27329802482
noncomputable abbrev N.aC : Nat := 1962226
noncomputable abbrev N.bj : Nat := 211317490
noncomputable abbrev N.aD : Nat := 7772605219985715954
noncomputable abbrev N.bG : Nat := 447630578299634
noncomputable abbrev N.C : Nat := 161537475385401447890179304293206021329662706
noncomputable abbrev N.bk : Nat := 31352222450
noncomputable abbrev N.bH : Nat := 27075965810
noncomputable abbrev N.J : Nat := 15218
noncomputable abbrev N.I : Nat := 4016016503283
noncomputable abbrev N.a : Nat := 215692019
noncomputable abbrev N.K : Nat := 122623139136478230819571
noncomputable abbrev N.a2 : Nat := 2301759969065268738755590003541332711995707437811
noncomputable abbrev N.aN : Nat := 297889770429798546069812019510449131918786905715443
noncomputable abbrev N.a3 : Nat := 213824755
noncomputable abbrev N.bI : Nat := 3463330969587
noncomputable abbrev N.an : Nat := 3497149691891
noncomputable abbrev N.W : Nat := 36729176356849050818767274670195
noncomputable abbrev N.bJ : Nat := 31360497779
noncomputable abbrev N.i : Nat := 27356854899
noncomputable abbrev N.e : Nat := 3771463416435
noncomputable abbrev N.aE : Nat := 56619825306074355
noncomputable abbrev N.c : Nat := 116
noncomputable abbrev N.t : Nat := 1700084
noncomputable abbrev N.aF : Nat := 15400540173579216601346292
noncomputable abbrev N.aO : Nat := 15400540173618528170668276
noncomputable abbrev N.bl : Nat := 2239819544968299487509999860
noncomputable abbrev N.A : Nat := 245248756
noncomputable abbrev N.j : Nat := 29741479924
noncomputable abbrev N.g : Nat := 940048689554387564532
noncomputable abbrev N.d : Nat := 1068029186710500472820
noncomputable abbrev N.h : Nat := 213662964
noncomputable abbrev N.q : Nat := 117
noncomputable abbrev N.T : Nat := 31352026997
noncomputable abbrev N.bK : Nat := 3501677164661
noncomputable abbrev N.v : Nat := 211384821
noncomputable abbrev N.D : Nat := 1994999
noncomputable abbrev N.x : Nat := 245084919
end Mine
namespace Mine
noncomputable def cr : List (Nat × Nat × Nat) := [(73, 53902074141372383, 63), (73, 211317490, 70), (166, 53902074141372383, 98), (166, 31352222450, 105), (166, 1012394501969689540719, 112), (166, 7989288598043883615, 119), (166, 62416317172217840, 126), (166, 240677987, 133), (166, 7772605219985715954, 141), (166, 4479185100425797988183817959083408389219, 148), (166, 1003756016285699830883, 156), (166, 31352026997, 163), (762, 53902074141372383, 261), (762, 4494405369511484639996017943148261, 297), (762, 7343549811154301156, 304), (762, 32297273626065612125600514652005, 311), (762, 15400540173618528170668276, 353), (762, 529158531091405923781398542920971875, 360), (762, 15400540173579216601346292, 367), (762, 297889770429636446208649489731886080364500854878946, 535), (762, 67732291979527064133583164614693960289, 542), (762, 297889770429798546069812019510449131918786905715443, 591), (762, 529158531092323144178770079257327586, 598), (762, 4880625998731621868340768995539437336476859442535379181, 605), (762, 529158531092327830141554724886509539, 612), (762, 15400540173579326202640356, 654)]
noncomputable def qG : List (Nat × Nat) := [(73, 245248756), (73, 27321202288), (166, 161537475385401447890179304293206021329662706), (166, 65187255259362030), (166, 1012394501969662521572), (166, 28955210851), (166, 7346961567845282915), (166, 137888533074495772914787), (166, 3982206220645), (166, 17498570590891805742037360), (166, 136772197156496051108208), (166, 76295154878212855130875912999137014111), (762, 3771463416435), (762, 3944365207792), (762, 957058016376549603813), (762, 2241766182530881068631650540), (762, 27356854899), (762, 3500603406821), (762, 16742964720396267771706083), (762, 940048689554387564532)]
end Mine
end
section
set_option Elab.async false
set_option maxRecDepth 100000
set_option maxHeartbeats 4000000
section
open PySem PySem.W PySem.Calls PyProof.Rows
namespace Mine
noncomputable def ds : Nat → Nat → List Nat
  | 0, _ => []
  | f + 1, n => if n = 0 then [] else n % 128 :: ds f (n / 128)
noncomputable def un : List Nat → Nat
  | [] => 0
  | d :: r => d + 128 * un r
theorem nu : ∀ f n, n ≤ f → un (ds f n) = n
  | 0, n, h => by obtain rfl : n = 0 := by lia
                  rfl
  | f + 1, n, h => by
    unfold ds
    split
    · rename_i e; subst e; rfl
    · show n % 128 + 128 * un (ds f (n / 128)) = n
      rw [nu f (n / 128) (by lia)]; lia
noncomputable def nm (n : Nat) : Str := ⟨(ds n n).toArray⟩
theorem g9 {a b : Nat} (h : nm a = nm b) : a = b := by
  have : ds a a = ds b b := by simpa [nm] using h
  have := congrArg un this
  rwa [nu _ _ (Nat.le_refl _), nu _ _ (Nat.le_refl _)] at this
inductive AV where
  | none
  | bool (b : Bool)
  | int (i : Int)
  | str (s : List Nat)
  | obj (i : Nat)
  | glob (v : Value)
inductive AO where
  | inst (C : Addr) (fs : List (Nat × AV))
  | dict (fs : List (Nat × AV))
  | list (vs : List AV)
  | tup (vs : List AV)
  | meth (f : Addr) (self : AV)
  | bag (P : Addr → List (Addr × Obj) → Prop)
  | iter (tp : Nat) (src : AV) (i : Nat)
  | riter (i n : Nat)
  | nsp (C : Addr) (vars : List (Nat × AV))
structure St where
  loc : List (Nat × AV)
  objs : List AO
noncomputable def ag (n : Nat) : List (Nat × AV) → Option AV
  | [] => Option.none
  | p :: r => bif Nat.beq p.1 n then some p.2 else ag n r
noncomputable def put (n : Nat) (v : AV) : List (Nat × AV) → List (Nat × AV)
  | [] => [(n, v)]
  | p :: r => bif Nat.beq p.1 n then (n, v) :: r else p :: put n v r
noncomputable def txt (s : List Nat) : Str := ⟨s.toArray⟩
noncomputable def AV.Is (ρ : List Addr) : AV → Value → Prop
  | .none, v => v = .none
  | .bool b, v => v = .bool b
  | .int i, v => ∃ t, v = .int i t
  | .str s, v => ∃ t, v = .str (txt s) t
  | .obj i, v => ∃ a, ρ[i]? = some a ∧ v = .ref a
  | .glob u, v => v = u
noncomputable def Vals (ρ : List Addr) : List AV → List Value → Prop
  | [], vs => vs = []
  | a :: r, vs => ∃ v vs', vs = v :: vs' ∧ a.Is ρ v ∧ Vals ρ r vs'
noncomputable def Ents (P : Params) (ρ : List Addr) : List (Nat × AV) → List DictEntry → Prop
  | [], es => es = []
  | p :: r, es => ∃ t v es', es = ⟨PyData.keyHash P (nm p.1), .str (nm p.1) t, v⟩ :: es' ∧ p.2.Is ρ v ∧ Ents P ρ r es'
noncomputable def rq : Nat → String → Prop
  | 0, ty => ty = "str_ascii_iterator" ∨ ty = "str_iterator"
  | 1, ty => ty = "list_iterator"
  | _, ty => ty = "tuple_iterator"
noncomputable def Locs (ρ : List Addr) (m : Str → Option Value) (loc : List (Nat × AV)) : Prop :=
  ∀ n v, ag n loc = some v → ∃ x, m (nm n) = some x ∧ v.Is ρ x
noncomputable def AO.Cells (P : Params) (ρ : List Addr) : AO → Addr → List (Addr × Obj) → Prop
  | .inst C fs, a, cs => ∃ d es n, Ents P ρ fs es ∧ cs = [(a, instObj C d), (d, dictOf es n)]
  | .dict fs, a, cs => ∃ es n, Ents P ρ fs es ∧ cs = [(a, dictOf es n)] ∧ (a == sysModules) = false
  | .list vs, a, cs => ∃ ws n, Vals ρ vs ws ∧ cs = [(a, listOf ws.toArray n)]
  | .tup vs, a, cs => ∃ ws, Vals ρ vs ws ∧ cs = [(a, { cls := .type "tuple", data := .seq ws.toArray })]
  | .meth f self, a, cs => ∃ v, self.Is ρ v ∧ cs = [(a, methodObj (.ref f) v)]
  | .bag B, a, cs => B a cs
  | .iter tp src i, a, cs => ∃ o v ty, src.Is ρ v ∧ cs = [(a, o)] ∧ o.cls = .type ty ∧ rq tp ty ∧ o.data = .fields #[v, .int i 0]
  | .riter i n, a, cs => i ≤ n ∧ cs = [(a, { cls := .type "range_iterator", data := .fields #[rawInt i, rawInt ((n : Int) - i), rawInt 1] })]
  | .nsp C vars, a, cs => a = C ∧ ∃ o m, cs = [(C, o)] ∧ (∀ h : Heap, h.get? C = some o → h.Ns C m) ∧ Locs ρ m vars
noncomputable def Objs (P : Params) (ρ : List Addr) : List AO → List Addr → List (List (Addr × Obj)) → Prop
  | [], as, cs => as = [] ∧ cs = []
  | o :: r, as, cs => ∃ a as' c cs', as = a :: as' ∧ cs = c :: cs' ∧ o.Cells P ρ a c ∧ Objs P ρ r as' cs'
structure Rel (P : Params) (h₀ : Heap) (L : Addr) (h : Heap) (st : St) (ρ : List Addr) (m : Str → Option Value) (cs : List (List (Addr × Obj))) : Prop where
  fr : Fr h₀ L h m
  nw : News h₀ L h cs.flatten
  nd : (cs.flatten.map (·.1)).Nodup
  ob : Objs P ρ st.objs ρ cs
  lo : Locs ρ m st.loc
inductive Rl (P : Params) (h₀ : Heap) (L : Addr) (h : Heap) (st : St) (ρ : List Addr) : Prop
  | mk (m : Str → Option Value) (cs : List (List (Addr × Obj))) (R : Rel P h₀ L h st ρ m cs) : Rl P h₀ L h st ρ
theorem AV.Is.grow {ρ : List Addr} (σ : List Addr) : ∀ {a : AV} {v : Value}, a.Is ρ v → a.Is (ρ ++ σ) v
  | .none, _, h => h
  | .bool _, _, h => h
  | .int _, _, h => h
  | .str _, _, h => h
  | .glob _, _, h => h
  | .obj i, _, ⟨a, h, e⟩ => ⟨a, by rw [List.getElem?_append_left ((List.getElem?_eq_some_iff.mp h).1)]; exact h, e⟩
theorem Vals.grow {ρ : List Addr} (σ : List Addr) : ∀ {l : List AV} {vs : List Value}, Vals ρ l vs → Vals (ρ ++ σ) l vs
  | [], _, h => h
  | _ :: _, _, ⟨v, vs', e, h, r⟩ => ⟨v, vs', e, h.grow σ, r.grow σ⟩
theorem Ents.grow {P : Params} {ρ : List Addr} (σ : List Addr) : ∀ {l : List (Nat × AV)} {es : List DictEntry}, Ents P ρ l es → Ents P (ρ ++ σ) l es
  | [], _, h => h
  | _ :: _, _, ⟨t, v, es', e, h, r⟩ => ⟨t, v, es', e, h.grow σ, r.grow σ⟩
theorem AO.Cells.grow {P : Params} {ρ : List Addr} (σ : List Addr) : ∀ {o : AO} {a : Addr} {c : List (Addr × Obj)}, o.Cells P ρ a c → o.Cells P (ρ ++ σ) a c
  | .inst _ _, _, _, ⟨d, es, n, h, e⟩ => ⟨d, es, n, h.grow σ, e⟩
  | .dict _, _, _, ⟨es, n, h, e⟩ => ⟨es, n, h.grow σ, e⟩
  | .list _, _, _, ⟨ws, n, h, e⟩ => ⟨ws, n, h.grow σ, e⟩
  | .tup _, _, _, ⟨ws, h, e⟩ => ⟨ws, h.grow σ, e⟩
  | .meth _ _, _, _, ⟨v, h, e⟩ => ⟨v, h.grow σ, e⟩
  | .bag _, _, _, h => h
  | .iter _ _ _, _, _, ⟨o, v, ty, h, r⟩ => ⟨o, v, ty, h.grow σ, r⟩
  | .riter _ _, _, _, h => h
  | .nsp _ _, _, _, ⟨e, o, m, c, hn, h⟩ => ⟨e, o, m, c, hn, fun n v e => let ⟨x, hx, hv⟩ := h n v e; ⟨x, hx, hv.grow σ⟩⟩
theorem Objs.grow {P : Params} {ρ : List Addr} (σ : List Addr) : ∀ {os : List AO} {as : List Addr} {cs : List (List (Addr × Obj))}, Objs P ρ os as cs → Objs P (ρ ++ σ) os as cs
  | [], _, _, h => h
  | _ :: _, _, _, ⟨a, as', c, cs', e1, e2, h, r⟩ => ⟨a, as', c, cs', e1, e2, h.grow σ, r.grow σ⟩
theorem Objs.len {P : Params} {ρ : List Addr} : ∀ {os : List AO} {as : List Addr} {cs : List (List (Addr × Obj))}, Objs P ρ os as cs → as.length = os.length ∧ cs.length = os.length
  | [], _, _, ⟨e1, e2⟩ => by subst e1 e2; exact ⟨rfl, rfl⟩
  | _ :: _, _, _, ⟨_, _, _, _, e1, e2, _, r⟩ => by subst e1 e2; obtain ⟨a, b⟩ := r.len; simp [a, b]
inductive Got (P : Params) (ρ : List Addr) (as : List Addr) (cs : List (List (Addr × Obj))) (i : Nat) (o : AO) : Prop
  | mk (a : Addr) (c : List (Addr × Obj)) (h1 : as[i]? = some a) (h2 : cs[i]? = some c) (h3 : o.Cells P ρ a c) : Got P ρ as cs i o
theorem Objs.get {P : Params} {ρ : List Addr} {os : List AO} : ∀ {as : List Addr} {cs : List (List (Addr × Obj))} {i : Nat} {o : AO}, Objs P ρ os as cs → os[i]? = some o →
    Got P ρ as cs i o := by
  induction os with
  | nil => intro as cs i o _ e; cases e
  | cons x r ih =>
    intro as cs i o h e
    obtain ⟨a, as', c, cs', rfl, rfl, h, hr⟩ := h
    cases i with
    | zero => cases e; exact ⟨a, c, rfl, rfl, h⟩
    | succ i => obtain ⟨a, c, h1, h2, h3⟩ := ih (i := i) hr e; exact ⟨a, c, h1, h2, h3⟩
theorem Objs.put {P : Params} {ρ : List Addr} {o' : AO} {c' : List (Addr × Obj)} {a : Addr} {os : List AO} : ∀ {as : List Addr} {cs : List (List (Addr × Obj))} {i : Nat}, Objs P ρ os as cs → as[i]? = some a → o'.Cells P ρ a c' →
    Objs P ρ (os.set i o') as (cs.set i c') := by
  induction os with
  | nil =>
    intro as cs i h e _
    obtain ⟨rfl, rfl⟩ := h
    cases e
  | cons x r ih =>
    intro as cs i h e h'
    obtain ⟨b, as', c, cs', rfl, rfl, h, hr⟩ := h
    cases i with
    | zero => cases e; exact ⟨_, as', c', cs', rfl, rfl, h', hr⟩
    | succ i => exact ⟨b, as', c, cs'.set i c', rfl, rfl, h, ih (i := i) hr e h'⟩
theorem Objs.push {P : Params} {ρ : List Addr} {o : AO} {a : Addr} {c : List (Addr × Obj)} {os : List AO} : ∀ {as : List Addr} {cs : List (List (Addr × Obj))}, Objs P ρ os as cs → o.Cells P ρ a c →
    Objs P ρ (os ++ [o]) (as ++ [a]) (cs ++ [c]) := by
  induction os with
  | nil =>
    intro as cs h h'
    obtain ⟨rfl, rfl⟩ := h
    exact ⟨_, [], _, [], rfl, rfl, h', rfl, rfl⟩
  | cons x r ih =>
    intro as cs h h'
    obtain ⟨b, as', d, cs', rfl, rfl, h, hr⟩ := h
    exact ⟨b, _, d, _, rfl, rfl, h, ih hr h'⟩
theorem e8 {α : Type} : ∀ {cs : List (List α)} {i : Nat} {c : List α}, cs[i]? = some c → cs.flatten = (cs.take i).flatten ++ c ++ (cs.drop (i + 1)).flatten
  | [], _, _, h => by cases h
  | _ :: _, 0, _, h => by cases h; simp
  | x :: r, i + 1, _, h => by simp [e8 (cs := r) (i := i) h, List.append_assoc]
theorem dZ {α : Type} : ∀ {cs : List (List α)} {i : Nat} {c : List α} (c' : List α), cs[i]? = some c → (cs.set i c').flatten = (cs.take i).flatten ++ c' ++ (cs.drop (i + 1)).flatten
  | [], _, _, _, h => by cases h
  | _ :: _, 0, _, _, h => by simp
  | x :: r, i + 1, _, c', h => by simp [dZ (cs := r) (i := i) c' h, List.append_assoc]
theorem bH {α : Type} {cs : List (List α)} {i : Nat} {c : List α} {x : α} (h : cs[i]? = some c) (hx : x ∈ c) : x ∈ cs.flatten :=
  List.mem_flatten.mpr ⟨c, List.mem_of_getElem? h, hx⟩
theorem nv {d : Addr} {o : Obj} (o' : Obj) {pre post : List (Addr × Obj)} : (((pre ++ (d, o) :: post)).map (·.1)).Nodup → Upd d o o' (pre ++ (d, o) :: post) (pre ++ (d, o') :: post) := by
  induction pre with
  | nil =>
    intro h
    rw [List.nil_append, List.map_cons, List.nodup_cons] at h
    exact .head fun p hp e => h.1 (List.mem_map.mpr ⟨p, hp, e⟩)
  | cons x r ih =>
    intro h
    rw [List.cons_append, List.map_cons, List.nodup_cons] at h
    refine .tail (fun e => h.1 ?_) (ih h.2)
    rw [e]; simp
theorem hG {k n : Nat} (h : n ≠ k) : Nat.beq k n = false := by
  cases q : Nat.beq k n with
  | false => rfl
  | true => exact absurd (Nat.eq_of_beq_eq_true q).symm h
theorem am (n : Nat) (v : AV) : ∀ l, ag n (put n v l) = some v
  | [] => by simp [put, ag]
  | p :: r => by
    unfold put
    cases h : Nat.beq p.1 n with
    | true => simp [ag]
    | false => simp only [cond_false]; unfold ag; rw [h]; exact am n v r
theorem cH {n k : Nat} (v : AV) (hne : n ≠ k) : ∀ l, ag n (put k v l) = ag n l
  | [] => by
    simp [put, ag, hG hne]
  | p :: r => by
    unfold put
    cases h : Nat.beq p.1 k with
    | true =>
      have e : p.1 = k := Nat.eq_of_beq_eq_true h
      simp only [cond_true]
      unfold ag
      simp only [hG hne, e, cond_false]
    | false =>
      simp only [cond_false]
      unfold ag
      rw [cH v hne r]
theorem Locs.put {ρ : List Addr} {m : Str → Option Value} {loc : List (Nat × AV)} (h : Locs ρ m loc) {k : Nat} {a : AV} {v : Value} (hv : a.Is ρ v) : Locs ρ (fun y => if y = nm k then some v else m y) (Mine.put k a loc) := by
  intro n b e
  by_cases hn : n = k
  · subst hn
    rw [am] at e
    cases e
    exact ⟨v, by simp, hv⟩
  · rw [cH a hn] at e
    obtain ⟨x, hx, hb⟩ := h n b e
    refine ⟨x, ?_, hb⟩
    show (if nm n = nm k then some v else m (nm n)) = some x
    rw [if_neg (fun q => hn (g9 q))]
    exact hx
theorem Locs.grow {ρ : List Addr} (σ : List Addr) {m : Str → Option Value} {loc : List (Nat × AV)} (h : Locs ρ m loc) : Locs (ρ ++ σ) m loc := fun n v e =>
  let ⟨x, hx, hv⟩ := h n v e
  ⟨x, hx, hv.grow σ⟩
structure Glo (K : Frag) (h : Heap) : Prop where
  kin : K.In h
  top : ∃ p loose mg mb, TopRead p loose mg mb h
theorem Glo.keeps {K : Frag} {h h' : Heap} (G : Glo K h) (hk : ∀ b o, h.get? b = some o → h'.get? b = some o) : Glo K h' :=
  ⟨G.kin.keeps hk, let ⟨p, l, mg, mb, T⟩ := G.top; ⟨p, l, mg, mb, T.keeps hk⟩⟩
structure Cx (K : Frag) (d : Nat) (A : Around) (q : Str) (sc : Scope) (L f : Addr) (cd : Value) (h₀ : Heap) : Prop where
  glo : Glo K h₀
  bel : ∃ A₀ base outer, Below A₀ base outer h₀ ∧ A.frames = some (envOf q sc L f cd :: outer)
  hand : A.handled = none
  dep : A.depth + 4 * d + 4 < recursionLimit
  uni : A.units + 40 * d + 40 < cLine
  kind : sc.kind = .function
theorem Cx.le {K : Frag} {d d' : Nat} {A : Around} {q : Str} {sc : Scope} {L f : Addr} {cd : Value} {h₀ : Heap} (C : Cx K d A q sc L f cd h₀) (h : d' ≤ d) : Cx K d' A q sc L f cd h₀ :=
  ⟨C.glo, C.bel, C.hand, by have := C.dep; lia, by have := C.uni; lia, C.kind⟩
section
variable {prog : Program} {w : World} {K : Frag} {d : Nat} {q : Str} {sc : Scope} {f : Addr} {cd : Value} {en : Addr → Env}
variable {A : Around} {L : Addr} {h₀ : Heap} {s : Shared} {st : St} {ρ : List Addr}
inductive Post (w : World) (h₀ : Heap) (L : Addr) {α β : Type} (I : List Addr → β → α → Prop) (s : Shared) (ρ : List Addr) (k : β → St → Prop) (a : α) (s' : Shared) : Prop
  | mk (h' : Heap) (tk : Nat) (b : β) (st' : St) (σ : List Addr) (e : s' = { s with heap := h', toks := tk }) (R : Rl w.params h₀ L h' st' (ρ ++ σ)) (i : I (ρ ++ σ) b a) (kk : k b st') : Post w h₀ L I s ρ k a s'
noncomputable abbrev No : Value → Shared → Prop := fun _ _ => False
class Tk (n : Nat) : Prop where
  pos : 0 < n
noncomputable instance Tk.succ (n : Nat) : Tk (n + 1) := ⟨Nat.succ_pos n⟩
noncomputable instance Tk.add (n m : Nat) [h : Tk n] : Tk (n + m) := ⟨Nat.lt_of_lt_of_le h.pos (Nat.le_add_right _ _)⟩
theorem gr {M : Model} {Γ : Ctx} {p : Pos} {t : Sem Fin} {fs : List Frame} {s : Shared} {e : End} {s' : Shared} (h : Runs M Γ p t fs s e s') : s.toks ≤ s'.toks := by
  induction h with
  | done => exact Nat.le_refl _
  | raise => exact Nat.le_refl _
  | yield => exact Nat.le_refl _
  | fresh _ ih => exact Nat.le_trans (Nat.le_succ _) ih
  | call _ _ i1 i2 => exact Nat.le_trans i1 i2
  | resumeFresh _ _ _ _ i1 i2 => exact Nat.le_trans i1 i2
  | resumeSuspended _ _ _ _ i1 i2 => exact Nat.le_trans i1 i2
  | segRet _ _ i1 i2 => exact Nat.le_trans i1 i2
  | segGen _ _ i1 i2 => exact Nat.le_trans i1 i2
  | segSuspGen _ _ _ _ i1 i2 => exact Nat.le_trans i1 i2
  | _ => assumption
theorem lb {M : Model} {Γ : Ctx} {p : Pos} {g : Nat} {r : Resume} {s : Shared} {res : GenResult} {s' : Shared} (h : Wakes M Γ p g r s res s') : s.toks ≤ s'.toks := by
  unfold Wakes at h
  split at h
  · exact h.elim
  · split at h
    · obtain ⟨e, s₁, h1, _, _, rfl⟩ := h; have h2 := gr h1; exact h2
    · rw [h.2]; exact Nat.le_refl _
    · rw [h.2]; exact Nat.le_refl _
  · obtain ⟨e, s₁, h1, _, _, rfl⟩ := h; have h2 := gr h1; exact h2
  · rw [h.2]; exact Nat.le_refl _
  · rw [h.2]; exact Nat.le_refl _
theorem ph {α : Type} {M : Model} {Γ : Ctx} {E : Value → Pos → Shared → Prop} : ∀ (t : Sem α) {Q : α → Pos → Shared → Prop} {p : Pos} {s : Shared} (n : Nat), n ≤ s.toks →
    Sem.wp M Γ t (fun a p' s' => n ≤ s'.toks → Q a p' s') E p s → Sem.wp M Γ t Q E p s := by
  intro t
  induction t with
  | pure a => intro Q p s n hn h; rw [Sem.wp] at h ⊢; exact h hn
  | raise e => intro Q p s n hn h; rw [Sem.wp] at h ⊢; exact h
  | unsupported _ => intro Q p s n hn h; rw [Sem.wp] at h; exact h.elim
  | finish _ => intro Q p s n hn h; rw [Sem.wp] at h; exact h.elim
  | rule _ k ih => intro Q p s n hn h; rw [Sem.wp] at h ⊢; exact ih _ n hn h
  | «at» _ k ih => intro Q p s n hn h; rw [Sem.wp] at h ⊢; exact ih _ n hn h
  | load a _ k ih => intro Q p s n hn h; rw [Sem.wp] at h ⊢; obtain ⟨o, h1, h2⟩ := h; exact ⟨o, h1, ih _ n hn h2⟩
  | update a _ f k ih => intro Q p s n hn h; rw [Sem.wp] at h ⊢; exact ⟨h.1, ih _ n hn h.2⟩
  | alloc o k ih => intro Q p s n hn h; rw [Sem.wp] at h ⊢; exact ih _ n hn h
  | loadIfAlive a k ih => intro Q p s n hn h; rw [Sem.wp] at h ⊢; exact ih _ n hn h
  | point _ k ih => intro Q p s n hn h; rw [Sem.wp] at h ⊢; exact ih _ n hn h
  | register _ _ _ => intro Q p s n hn h; rw [Sem.wp] at h; exact h.elim
  | fresh k ih => intro Q p s n hn h; rw [Sem.wp] at h ⊢; exact ih _ n (Nat.le_trans hn (Nat.le_succ _)) h
  | ask k ih => intro Q p s n hn h; rw [Sem.wp] at h ⊢; exact ih _ n hn h
  | choose src m k ih => intro Q p s n hn h; rw [Sem.wp] at h ⊢; exact ⟨h.1, ih _ n hn h.2⟩
  | os q _ k ih => intro Q p s n hn h; rw [Sem.wp] at h ⊢; exact ih _ n hn h
  | call c hd _ _ k ih =>
    intro Q p s n hn h
    rw [Sem.wp] at h ⊢
    obtain ⟨r, s', h1, h2⟩ := h
    exact ⟨r, s', h1, ih _ n (Nat.le_trans hn (gr h1)) h2⟩
  | handled own k ih => intro Q p s n hn h; rw [Sem.wp] at h ⊢; exact ih _ n hn h
  | genState g k ih => intro Q p s n hn h; rw [Sem.wp] at h ⊢; obtain ⟨o, h1, h2⟩ := h; exact ⟨o, h1, ih _ n hn h2⟩
  | newGen c k ih => intro Q p s n hn h; rw [Sem.wp] at h ⊢; exact ih _ n hn h
  | resume g r _ k ih =>
    intro Q p s n hn h
    rw [Sem.wp] at h ⊢
    obtain ⟨res, s', h1, h2⟩ := h
    exact ⟨res, s', h1, ih _ n (Nat.le_trans hn (lb h1)) h2⟩
  | yield _ _ _ _ _ => intro Q p s n hn h; rw [Sem.wp] at h; exact h.elim
  | stack k ih => intro Q p s n hn h; rw [Sem.wp] at h ⊢; exact ih _ n hn h
  | fork _ _ _ => intro Q p s n hn h; rw [Sem.wp] at h; exact h.elim
  | thread k ih => intro Q p s n hn h; rw [Sem.wp] at h ⊢; exact ih _ n hn h
  | await _ _ _ _ _ _ => intro Q p s n hn h; rw [Sem.wp] at h; exact h.elim
theorem jp {α : Type} {M : Model} {t : Sem α} {Q : α → Shared → Prop} {E : Value → Shared → Prop} [T : Tk s.toks] (h : wpAny M A t (fun a s' => Tk s'.toks → Q a s') E s) : wpAny M A t Q E s := fun Γ p hΓ =>
  ph t s.toks (Nat.le_refl _) (Sem.wp_mono _ _ _ (fun _ _ _ h1 h2 => h1 ⟨Nat.lt_of_lt_of_le T.pos h2⟩) (fun _ _ _ x => x) _ _ (h Γ p hΓ))
structure Sd (prog : Program) (w : World) (K : Frag) (d : Nat) (q : Str) (sc : Scope) (f : Addr) (cd : Value) (en : Addr → Env) {α β : Type} (I : List Addr → β → α → Prop) (t : Env → Sem α) (T : St → (β → St → Prop) → Prop) : Prop where
  run : ∀ (A : Around) (L : Addr) (h₀ : Heap) (s : Shared) (_ : Tk s.toks) (st : St) (ρ : List Addr) (k : β → St → Prop), Cx K d A q sc L f cd h₀ → Rl w.params h₀ L s.heap st ρ → T st k →
    wpAny (model prog w) A (t (en L)) (Post w h₀ L I s ρ k) No s
noncomputable def IsV : List Addr → AV → Value → Prop := fun ρ a v => a.Is ρ v
noncomputable def pj {α : Type} : List Addr → α → α → Prop := fun _ a b => a = b
inductive AF where
  | next | brk | cont
  | ret (v : AV)
noncomputable def IsF (ρ : List Addr) : AF → Flow → Prop
  | .next, f => f = .next
  | .brk, f => f = .brk
  | .cont, f => f = .cont
  | .ret a, f => ∃ v, f = .ret v ∧ a.Is ρ v
noncomputable abbrev SE (prog : Program) (w : World) (K : Frag) (d : Nat) (q : Str) (sc : Scope) (f : Addr) (cd : Value) (en : Addr → Env) (e : Expr) (T : St → (AV → St → Prop) → Prop) : Prop := Sd prog w K d q sc f cd en IsV (fun env => eval e env) T
noncomputable abbrev SB (prog : Program) (w : World) (K : Frag) (d : Nat) (q : Str) (sc : Scope) (f : Addr) (cd : Value) (en : Addr → Env) (e : Expr) (T : St → (Bool → St → Prop) → Prop) : Prop := Sd prog w K d q sc f cd en pj (fun env => isTrue e env (eval e env)) T
noncomputable abbrev S1 (prog : Program) (w : World) (K : Frag) (d : Nat) (q : Str) (sc : Scope) (f : Addr) (cd : Value) (en : Addr → Env) (e : Stmt) (T : St → (AF → St → Prop) → Prop) : Prop := Sd prog w K d q sc f cd en IsF (fun env => exec e env) T
noncomputable abbrev SS (prog : Program) (w : World) (K : Frag) (d : Nat) (q : Str) (sc : Scope) (f : Addr) (cd : Value) (en : Addr → Env) (e : List Stmt) (T : St → (AF → St → Prop) → Prop) : Prop := Sd prog w K d q sc f cd en IsF (fun env => execs e env) T
section
variable {α β γ δ : Type} {I : List Addr → β → α → Prop} {J : List Addr → δ → γ → Prop} {k : β → St → Prop} {k' : δ → St → Prop}
theorem fin {a : α} {b : β} (R : Rl w.params h₀ L s.heap st ρ) (i : I ρ b a) (h : k b st) : Post w h₀ L I s ρ k a s :=
  ⟨s.heap, s.toks, b, st, [], rfl, by rw [List.append_nil]; exact R, by rw [List.append_nil]; exact i, h⟩
theorem dP {a : α} {b : β} {h' : Heap} {tk : Nat} (R : Rl w.params h₀ L h' st ρ) (i : I ρ b a) (h : k b st) : Post w h₀ L I s ρ k a { s with heap := h', toks := tk } :=
  ⟨h', tk, b, st, [], rfl, by rw [List.append_nil]; exact R, by rw [List.append_nil]; exact i, h⟩
theorem sA {a : α} {b : β} {h' : Heap} {tk : Nat} {x : Addr} (R : Rl w.params h₀ L h' st (ρ ++ [x])) (i : I (ρ ++ [x]) b a) (h : k b st) : Post w h₀ L I s ρ k a { s with heap := h', toks := tk } :=
  ⟨h', tk, b, st, [x], rfl, R, i, h⟩
theorem Post.up {a : α} {s' : Shared} {σ : List Addr} {h' : Heap} {tk : Nat} (h : Post w h₀ L I { s with heap := h', toks := tk } (ρ ++ σ) k a s') : Post w h₀ L I s ρ k a s' := by
  obtain ⟨h2, tk2, b, st', σ', e, R, i, kk⟩ := h
  exact ⟨h2, tk2, b, st', σ ++ σ', e, by rw [← List.append_assoc]; exact R, by rw [← List.append_assoc]; exact i, kk⟩
theorem Post.at {a : α} {s' : Shared} {h' : Heap} {tk : Nat} (h : Post w h₀ L I { s with heap := h', toks := tk } ρ k a s') : Post w h₀ L I s ρ k a s' := by
  obtain ⟨h2, tk2, b, st', σ', e, R, i, kk⟩ := h
  exact ⟨h2, tk2, b, st', σ', e, R, i, kk⟩
theorem go {t : Sem α} {σ : List Addr} {h' : Heap} {tk : Nat} (h : wpAny (model prog w) A t (Post w h₀ L I { s with heap := h', toks := tk } (ρ ++ σ) k) No { s with heap := h', toks := tk }) :
    wpAny (model prog w) A t (Post w h₀ L I s ρ k) No { s with heap := h', toks := tk } := wpAny_mono h (fun _ _ p => p.up) fun _ _ x => x
theorem sq {t : Sem α} {Q : α → Shared → Prop} [Tk s.toks] (h : wpAny (model prog w) A t (Post w h₀ L I s ρ k) No s)
    (n : ∀ a h' tk, Tk tk → ∀ b st' σ, Rl w.params h₀ L h' st' (ρ ++ σ) → I (ρ ++ σ) b a → k b st' → Q a { s with heap := h', toks := tk }) : wpAny (model prog w) A t Q No s :=
  jp (wpAny_mono h (fun a _ ⟨h', tk, b, st', σ, e, R, i, kk⟩ => by subst e; exact fun T => n a h' tk T b st' σ R i kk) fun _ _ x => x)
theorem sqE {t : Sem α} {Q : α → Shared → Prop} {E : Value → Shared → Prop} (T : Tk s.toks) (h : wpAny (model prog w) A t (Post w h₀ L I s ρ k) No s)
    (n : ∀ a h' tk, Tk tk → ∀ b st' σ, Rl w.params h₀ L h' st' (ρ ++ σ) → I (ρ ++ σ) b a → k b st' → Q a { s with heap := h', toks := tk }) : wpAny (model prog w) A t Q E s :=
  wpAny_mono (sq h n) (fun _ _ x => x) fun _ _ x => x.elim
theorem sqU {γ : Type} {c : γ} {J : List Addr → β → γ → Prop} {t : Sem α} {Q : α → Shared → Prop} {E : Value → Shared → Prop} (T : Tk s.toks) (h : wpAny (model prog w) A t (fun _ => Post w h₀ L J s ρ k c) No s)
    (n : ∀ a h' tk, Tk tk → ∀ b st' σ, Rl w.params h₀ L h' st' (ρ ++ σ) → J (ρ ++ σ) b c → k b st' → Q a { s with heap := h', toks := tk }) : wpAny (model prog w) A t Q E s := by
  refine wpAny_mono (jp (wpAny_mono h (fun _ s' p tp => And.intro tp p) fun _ _ x => x)) (fun a s₂ pp => ?_) fun _ _ x => x.elim
  obtain ⟨tp5, h5, tk5, b5, st5, σ5, rfl, R5, i5, k5⟩ := pp
  exact n a h5 tk5 tp5 b5 st5 σ5 R5 i5 k5
end
noncomputable abbrev fl (q : Str) (sc : Scope) (f : Addr) (cd : Value) : Addr → Env := fun L => envOf q sc L f cd
structure GE (en : Addr → Env) (x : Str) : Prop where
  g : ∀ L, (en L).globals = mainGlobals
  b : ∀ L, (en L).builtins = builtinsNs
  k : ∀ L, (en L).scope.kind = .function
  x : ∀ L, (en L).kindOf x = some .globalImplicit
noncomputable def aa (n : Nat) : St → (AV → St → Prop) → Prop := fun st k => match ag n st.loc with
  | some a => k a st
  | none => False
theorem ab {n : Nat} {x : Str} {pos : Pos} (hn : nm n = x) (hl : sc.names.lookup x = some .local) (hd : (x == ("__debug__" : Str)) = false) : SE prog w K d q sc f cd (fl q sc f cd) (.Name x pos) (aa n) := by
  refine ⟨?_⟩
  intro A L h₀ s _tp st ρ k C R T
  unfold aa at T
  obtain ⟨m, cs, R'⟩ := R
  cases e : ag n st.loc with
  | none => rw [e] at T; exact T.elim
  | some a =>
    rw [e] at T
    obtain ⟨v, hv, ha⟩ := R'.lo n a e
    rw [hn] at hv
    exact ld R'.fr hv (fin ⟨m, cs, R'⟩ ha T) C.kind hl hd
noncomputable def ad (a : AV) : St → (AV → St → Prop) → Prop := fun st k => k a st
theorem nx {m : Str → Option Value} {x : Str} {pos : Pos} {v : Value} {E : Value → Shared → Prop} {Q : Value → Shared → Prop} (G : Glo K h₀) (F : Fr h₀ L s.heap m) (e : nsIn K mainGlobals x = some (some v)) (ge : GE en x) (hd : (x == ("__debug__" : Str)) = false) (h : Q v s) :
    wpAny (model prog w) A (eval (.Name x pos) (en L)) Q E s :=
  let ⟨_, _, _, _, TT⟩ := G.top
  nameG_K F G.kin TT e h (ge.g L) (ge.k L) (ge.x L) hd
theorem nz {m : Str → Option Value} {x : Str} {pos : Pos} {v : Value} {E : Value → Shared → Prop} {Q : Value → Shared → Prop} (G : Glo K h₀) (F : Fr h₀ L s.heap m) (e : nsIn K mainGlobals x = some none) (hv : bootBuiltins x = some v) (hn : x ≠ "__name__") (ge : GE en x) (hd : (x == ("__debug__" : Str)) = false) (h : Q v s) :
    wpAny (model prog w) A (eval (.Name x pos) (en L)) Q E s :=
  let ⟨_, _, _, _, TT⟩ := G.top
  Name_function_global (ge.k L) (ge.x L) (loadGlobal_builtin (env := en L) (by rw [ge.g L]; exact TT.g.keeps F.keep) (mg_none_of G.kin TT.g e) (by rw [ge.b L]; exact TT.b.keeps F.keep) ((TT.builtins x hn).trans hv) h) hd
theorem rs {x : Str} {pos : Pos} {v : Value} {a : AV} (e : nsIn K mainGlobals x = some (some v)) (ha : ∀ ρ, a.Is ρ v) (ge : GE en x) (hd : (x == ("__debug__" : Str)) = false) :
    SE prog w K d q sc f cd en (.Name x pos) (ad a) := by
  refine ⟨?_⟩
  intro A L h₀ s _tp st ρ k C R T
  obtain ⟨m, cs, R'⟩ := R
  exact nx C.glo R'.fr e ge hd (fin ⟨m, cs, R'⟩ (ha ρ) T)
theorem qH {x : Str} {pos : Pos} {v : Value} (e : nsIn K mainGlobals x = some none) (hv : bootBuiltins x = some v) (hn : x ≠ "__name__") (ge : GE en x) (hd : (x == ("__debug__" : Str)) = false) :
    SE prog w K d q sc f cd en (.Name x pos) (ad (.glob v)) := by
  refine ⟨?_⟩
  intro A L h₀ s _tp st ρ k C R T
  obtain ⟨m, cs, R'⟩ := R
  exact nz C.glo R'.fr e hv hn ge hd (fin (b := AV.glob v) ⟨m, cs, R'⟩ rfl T)
theorem aC {x : Str} {c : List Nat} {n : Nat} {pos : Pos} (h : txt c = x) : SE prog w K d q sc f cd en (.Constant (.str x) n pos) (ad (.str c)) := by
  refine ⟨?_⟩
  intro A L h₀ s _tp st ρ k C R T
  exact wpAny_Constant_str (dP (b := AV.str c) R ⟨_, by rw [h]⟩ T)
theorem bw {i : Int} {n : Nat} {pos : Pos} : SE prog w K d q sc f cd en (.Constant (.int i) n pos) (ad (.int i)) := by
  refine ⟨?_⟩
  intro A L h₀ s _tp st ρ k C R T
  exact wpAny_Constant_int (dP (b := AV.int i) R ⟨_, rfl⟩ T)
theorem bG {b : Bool} {n : Nat} {pos : Pos} : SE prog w K d q sc f cd en (.Constant (.bool b) n pos) (ad (.bool b)) := by
  refine ⟨?_⟩
  intro A L h₀ s _tp st ρ k C R T
  exact wpAny_Constant_bool (fin (b := AV.bool b) R rfl T)
theorem eV {n : Nat} {pos : Pos} : SE prog w K d q sc f cd en (.Constant .none n pos) (ad .none) := by
  refine ⟨?_⟩
  intro A L h₀ s _tp st ρ k C R T
  exact wpAny_Constant_none (fin (b := AV.none) R rfl T)
noncomputable abbrev TS := St → (AF → St → Prop) → Prop
noncomputable abbrev TE := St → (AV → St → Prop) → Prop
noncomputable abbrev TB := St → (Bool → St → Prop) → Prop
noncomputable def aj : TS := fun st k => k .next st
noncomputable def ae (T U : TS) : TS := fun st k => T st fun fl st' => match fl with
  | .next => U st' k
  | fl => k fl st'
theorem az : SS prog w K d q sc f cd en [] aj := by
  refine ⟨?_⟩
  intro A L h₀ s _tp st ρ k C R T
  exact wpAny_execs_nil (fin (b := AF.next) R rfl T)
theorem ai {a : Stmt} {r : List Stmt} {T U : TS} (ha : S1 prog w K d q sc f cd en a T) (hr : SS prog w K d q sc f cd en r U) : SS prog w K d q sc f cd en (a :: r) (ae T U) := by
  refine ⟨?_⟩
  intro A L h₀ s _tp st ρ k C R H
  refine wpAny_execs_cons (sq (ha.run A L h₀ s inferInstance st ρ _ C R H) fun fl h' tk _ b st' σ R' i kk => ?_)
  cases b with
  | next =>
    obtain rfl : fl = .next := i
    exact go (hr.run A L h₀ _ inferInstance st' _ k C R' kk)
  | brk => obtain rfl : fl = .brk := i; exact ⟨h', tk, .brk, st', σ, rfl, R', rfl, kk⟩
  | cont => obtain rfl : fl = .cont := i; exact ⟨h', tk, .cont, st', σ, rfl, R', rfl, kk⟩
  | ret a => obtain ⟨v, rfl, hv⟩ := i; exact ⟨h', tk, .ret a, st', σ, rfl, R', ⟨v, rfl, hv⟩, kk⟩
noncomputable def aIf (Tc : TB) (T U : TS) : TS := fun st k => Tc st fun b st' => bif b then T st' k else U st' k
theorem sIf {e : Expr} {a b : List Stmt} {pos : Pos} {Tc : TB} {T U : TS} (hc : SB prog w K d q sc f cd en e Tc) (ha : SS prog w K d q sc f cd en a T) (hb : SS prog w K d q sc f cd en b U) : S1 prog w K d q sc f cd en (.If e a b pos) (aIf Tc T U) := by
  refine ⟨?_⟩
  intro A L h₀ s _tp st ρ k C R H
  refine wpAny_If (sq (hc.run A L h₀ s inferInstance st ρ _ C R H) fun c h' tk _ b st' σ R' i kk => ?_)
  obtain rfl : b = c := i
  cases b with
  | true => exact go (ha.run A L h₀ _ inferInstance st' _ k C R' kk)
  | false => exact go (hb.run A L h₀ _ inferInstance st' _ k C R' kk)
noncomputable def ay (T : TE) : TS := fun st k => T st fun a st' => k (.ret a) st'
theorem aS {e : Expr} {pos : Pos} {T : TE} (he : SE prog w K d q sc f cd en e T) : S1 prog w K d q sc f cd en (.Return (some e) pos) (ay T) := by
  refine ⟨?_⟩
  intro A L h₀ s _tp st ρ k C R H
  exact wpAny_Return_some (sq (he.run A L h₀ s inferInstance st ρ _ C R H) fun v h' tk _ b st' σ R' i kk => ⟨h', tk, .ret b, st', σ, rfl, R', ⟨v, rfl, i⟩, kk⟩)
noncomputable def hJ (fl : AF) : TS := fun st k => k fl st
theorem tf {pos : Pos} : S1 prog w K d q sc f cd en (.Pass pos) (hJ .next) := by
  refine ⟨?_⟩
  intro A L h₀ s _tp st ρ k C R H
  exact wpAny_Pass (fin (b := AF.next) R rfl H)
theorem jq {pos : Pos} : S1 prog w K d q sc f cd en (.Break pos) (hJ .brk) := by
  refine ⟨?_⟩
  intro A L h₀ s _tp st ρ k C R H
  exact wpAny_Break (fin (b := AF.brk) R rfl H)
theorem lJ {x : Str} {n : Nat} {a : AV} {v : Value} {k : AF → St → Prop} (C : Cx K d A q sc L f cd h₀) (R : Rl w.params h₀ L s.heap st ρ) (hn : nm n = x) (hl : sc.names.lookup x = some .local) (ha : a.Is ρ v) (h : k .next { st with loc := put n a st.loc }) :
    wpAny (model prog w) A (storeName (envOf q sc L f cd) x v) (fun _ => Post w h₀ L IsF s ρ k .next) No s := by
  obtain ⟨m, cs, R'⟩ := R
  subst hn
  exact stN R'.fr R'.nw (fun h' F' N' => dP (b := AF.next) (st := { st with loc := put n a st.loc }) ⟨_, cs, F', N', R'.nd, R'.ob, R'.lo.put ha⟩ rfl h) C.kind hl
noncomputable def aR (n : Nat) (T : TE) : TS := fun st k => T st fun a st' => k .next { st' with loc := put n a st'.loc }
theorem bD {x : Str} {n : Nat} {e : Expr} {xp pos : Pos} {T : TE} (hn : nm n = x) (hl : sc.names.lookup x = some .local) (he : SE prog w K d q sc f cd (fl q sc f cd) e T)
    (hs : ∀ env, swapsWith e (some (.Name x xp)) pos.line env = pure false) : S1 prog w K d q sc f cd (fl q sc f cd) (.Assign [.Name x xp] e pos) (aR n T) := by
  refine ⟨?_⟩
  intro A L h₀ s _tp st ρ k C R H
  exact wpAny_Assign_Name (sq (he.run A L h₀ s inferInstance st ρ _ C R H) fun v h' tk _ b st' σ R' i kk => wpAny_mono (lJ C R' hn hl i kk) (fun _ _ p => p.up) fun _ _ x => x) (hs _)
end
noncomputable def cv (C n : Nat) : Bool := qG.any fun p => Nat.beq p.1 C && Nat.beq p.2 n
noncomputable def cw (C n : Nat) : List (Nat × Nat × Nat) → Option Nat
  | [] => none
  | p :: r => bif Nat.beq p.1 C && Nat.beq p.2.1 n then some p.2.2 else cw C n r
noncomputable def kb (K : Frag) (C : Addr) : Bool := plainGet K C "" && hasDictIn K C && findIn K (.ref C) "__setattr__" == some (some (.builtin "object.__setattr__")) && plainOver K C
noncomputable def pk (K : Frag) (C : Addr) (x : Str) : Bool := kb K C && findIn K (.ref C) x == some none && takerIn K C x == some none
noncomputable def pn (K : Frag) (C : Addr) (x : Str) (f : Addr) : Bool := kb K C && findIn K (.ref C) x == some (some (.ref f)) && isFn K (.ref f) && keepIn K (.ref f)
inductive ClsI (K : Frag) (C : Addr) : Prop
  | mk (b1 : plainGet K C "" = true) (b2 : hasDictIn K C = true) (b3 : findIn K (.ref C) "__setattr__" = some (some (.builtin "object.__setattr__"))) (b4 : plainOver K C = true) : ClsI K C
theorem lK {K : Frag} {C : Addr} (h : kb K C = true) : ClsI K C :=
  have h := Bool.and_eq_true_iff.mp h
  have h2 := Bool.and_eq_true_iff.mp h.1
  have h3 := Bool.and_eq_true_iff.mp h2.1
  ⟨h3.1, h3.2, eq_of_beq h2.2, h.2⟩
inductive FldI (K : Frag) (C : Addr) (x : Str) : Prop
  | mk (c : ClsI K C) (b5 : findIn K (.ref C) x = some none) (b6 : takerIn K C x = some none) : FldI K C x
theorem jr {K : Frag} {C : Addr} {x : Str} (h : pk K C x = true) : FldI K C x :=
  have h := Bool.and_eq_true_iff.mp h
  have h2 := Bool.and_eq_true_iff.mp h.1
  ⟨lK h2.1, eq_of_beq h2.2, eq_of_beq h.2⟩
inductive MthI (K : Frag) (C : Addr) (x : Str) (f : Addr) : Prop
  | mk (c : ClsI K C) (b5 : findIn K (.ref C) x = some (some (.ref f))) (b6 : isFn K (.ref f) = true) (b7 : keepIn K (.ref f) = true) : MthI K C x f
theorem js {K : Frag} {C : Addr} {x : Str} {f : Addr} (h : pn K C x f = true) : MthI K C x f :=
  have h := Bool.and_eq_true_iff.mp h
  have h2 := Bool.and_eq_true_iff.mp h.1
  have h3 := Bool.and_eq_true_iff.mp h2.1
  ⟨lK h3.1, eq_of_beq h3.2, h2.2, h.2⟩
structure KOk (K : Frag) : Prop where
  fld : ∀ p ∈ qG, pk K p.1 (nm p.2) = true
  mth : ∀ p ∈ cr, pn K p.1 (nm p.2.1) p.2.2 = true
theorem KOk.fldOk {K : Frag} (O : KOk K) {C n : Nat} (h : cv C n = true) : pk K C (nm n) = true := by
  obtain ⟨p, hp, e⟩ := List.any_eq_true.mp h
  obtain ⟨e1, e2⟩ := Bool.and_eq_true_iff.mp e
  rw [← Nat.eq_of_beq_eq_true e1, ← Nat.eq_of_beq_eq_true e2]
  exact O.fld p hp
theorem hN {C n f : Nat} : ∀ {l : List (Nat × Nat × Nat)}, cw C n l = some f → (C, n, f) ∈ l
  | p :: r, h => by
    unfold cw at h
    cases q : (Nat.beq p.1 C && Nat.beq p.2.1 n) with
    | true =>
      rw [q] at h
      obtain ⟨e1, e2⟩ := Bool.and_eq_true_iff.mp q
      obtain ⟨a, b, c⟩ := p
      have : c = f := Option.some.inj h
      subst this
      have e1 := Nat.eq_of_beq_eq_true e1
      have e2 := Nat.eq_of_beq_eq_true e2
      dsimp only at e1 e2
      subst e1 e2
      exact .head _
    | false =>
      rw [q] at h
      exact .tail _ (hN h)
theorem KOk.mthOk {K : Frag} (O : KOk K) {C n f : Nat} (h : cw C n cr = some f) : pn K C (nm n) f = true := O.mth _ (hN h)
theorem eh {a b : Nat} : (nm a == nm b) = Nat.beq a b := by
  cases q : Nat.beq a b with
  | true => rw [Nat.eq_of_beq_eq_true q]; simp
  | false => simp only [beq_eq_false_iff_ne, ne_eq]; intro e; rw [g9 e] at q; simp at q
theorem Ents.find {P : Params} {ρ : List Addr} {n : Nat} : ∀ {fs : List (Nat × AV)} {es : List DictEntry}, Ents P ρ fs es →
    match ag n fs with
    | some a => ∃ e, es.find? (·.key.isStr (nm n)) = some e ∧ a.Is ρ e.val
    | none => es.find? (·.key.isStr (nm n)) = none
  | [], _, h => by obtain rfl := h; rfl
  | p :: r, _, ⟨t, v, es', e, hv, h⟩ => by
    subst e
    have ih := h.find (n := n)
    unfold ag
    rw [List.find?_cons]
    have hk : Value.isStr (.str (nm p.1) t) (nm n) = Nat.beq p.1 n := eh
    dsimp only
    rw [hk]
    cases q : Nat.beq p.1 n with
    | true => exact ⟨_, rfl, hv⟩
    | false => exact ih
theorem Ents.noRef {P : Params} {ρ : List Addr} : ∀ {fs : List (Nat × AV)} {es : List DictEntry}, Ents P ρ fs es → es.any (·.refKey) = false
  | [], _, h => by obtain rfl := h; rfl
  | p :: r, _, ⟨t, v, es', e, hv, h⟩ => by subst e; rw [List.any_cons, h.noRef]; rfl
theorem Ents.getS {P : Params} {ρ : List Addr} {n : Nat} {fs : List (Nat × AV)} {es : List DictEntry} {a : AV} (h : Ents P ρ fs es) (e : ag n fs = some a) : ∃ v, getL (nm n) es = some (some v) ∧ a.Is ρ v := by
  have := h.find (n := n)
  rw [e] at this
  obtain ⟨en, h1, h2⟩ := this
  exact ⟨en.val, by unfold getL; rw [h1], h2⟩
theorem Ents.getN {P : Params} {ρ : List Addr} {n : Nat} {fs : List (Nat × AV)} {es : List DictEntry} (h : Ents P ρ fs es) (e : ag n fs = none) : getL (nm n) es = some none := by
  have := h.find (n := n)
  rw [e] at this
  unfold getL
  rw [this, h.noRef]; rfl
theorem Ents.getSome {P : Params} {ρ : List Addr} (n : Nat) {fs : List (Nat × AV)} {es : List DictEntry} (h : Ents P ρ fs es) : (getL (nm n) es).isSome = true := by
  cases e : ag n fs with
  | some a => obtain ⟨v, hv, _⟩ := h.getS e; rw [hv]; rfl
  | none => rw [h.getN e]; rfl
theorem Ents.put {P : Params} {ρ : List Addr} {n : Nat} {a : AV} {v : Value} {t : Tok} (hv : a.Is ρ v) : ∀ {fs : List (Nat × AV)} {es : List DictEntry}, Ents P ρ fs es →
    Ents P ρ (Mine.put n a fs) (putL (nm n) (PyData.keyHash P (nm n)) (.str (nm n) t) v es)
  | [], _, h => by obtain rfl := h; exact ⟨t, v, [], rfl, hv, rfl⟩
  | p :: r, _, ⟨t', v', es', e, hv', h⟩ => by
    subst e
    unfold Mine.put putL
    have hk : Value.isStr (.str (nm p.1) t') (nm n) = Nat.beq p.1 n := eh
    dsimp only
    rw [hk]
    cases q : Nat.beq p.1 n with
    | true =>
      have e := Nat.eq_of_beq_eq_true q
      rw [if_pos rfl]
      exact ⟨t', v, es', by rw [e], hv, h⟩
    | false =>
      rw [if_neg (by simp)]
      exact ⟨t', v', _, rfl, hv', h.put hv⟩
theorem Ents.len {P : Params} {ρ : List Addr} : ∀ {fs : List (Nat × AV)} {es : List DictEntry}, Ents P ρ fs es → es.length = fs.length
  | [], _, h => by obtain rfl := h; rfl
  | p :: r, _, ⟨t', v', es', e, hv', h⟩ => by subst e; rw [List.length_cons, List.length_cons, h.len]
noncomputable def cu : AV → Bool
  | .glob v => handedIn v
  | _ => true
theorem mI {ρ : List Addr} {a : AV} {v : Value} (i : a.Is ρ v) (h : cu a = true) : handedIn v = true := by
  cases a with
  | none => obtain rfl := i; rfl
  | bool b => obtain rfl := i; rfl
  | int _ => obtain ⟨t, rfl⟩ := i; rfl
  | str _ => obtain ⟨t, rfl⟩ := i; rfl
  | obj _ => obtain ⟨a, _, rfl⟩ := i; rfl
  | glob u => obtain rfl := i; exact h
section
variable {prog : Program} {w : World} {K : Frag} {d : Nat} {q : Str} {sc : Scope} {f : Addr} {cd : Value} {en : Addr → Env}
variable {A : Around} {L : Addr} {h₀ : Heap} {s : Shared} {st : St} {ρ : List Addr}
inductive InstI (P : Params) (h : Heap) (ρ : List Addr) (cs : List (List (Addr × Obj))) (i : Nat) (Cl : Addr) (fs : List (Nat × AV)) : Prop
  | mk (x dx : Addr) (es : List DictEntry) (n : Nat) (h1 : ρ[i]? = some x) (h2 : cs[i]? = some [(x, instObj Cl dx), (dx, dictOf es n)]) (h3 : Ents P ρ fs es) (h4 : W.InstAt h x (instObj Cl dx) Cl (some (dictOf es n))) : InstI P h ρ cs i Cl fs
theorem Rel.inst {m : Str → Option Value} {cs : List (List (Addr × Obj))} {h : Heap} (R : Rel w.params h₀ L h st ρ m cs) {i : Nat} {Cl : Addr} {fs : List (Nat × AV)} (hi : st.objs[i]? = some (.inst Cl fs)) :
    InstI w.params h ρ cs i Cl fs := by
  obtain ⟨x, c, hx, hc, dx, es, n, he, rfl⟩ := R.ob.get hi
  exact ⟨x, dx, es, n, hx, hc, he, W.InstAt.of_news R.nw (bH hc (.head _)) (bH hc (.tail _ (.head _)))⟩
noncomputable def cP (n : Nat) (os : List AO) : AV → Option AV
  | .obj i => match os[i]? with
    | some (.inst C fs) => bif cv C n then (match ag n fs with | some a => bif cu a then some a else none | none => none) else none
    | _ => none
  | _ => none
inductive AttrI (n : Nat) (os : List AO) (a b : AV) : Prop
  | mk (i C : Nat) (fs : List (Nat × AV)) (h1 : a = .obj i) (h2 : os[i]? = some (.inst C fs)) (h3 : cv C n = true) (h4 : ag n fs = some b) (h5 : cu b = true) : AttrI n os a b
theorem iZ {n : Nat} {os : List AO} {a b : AV} (h : cP n os a = some b) : AttrI n os a b := by
  unfold cP at h
  split at h
  · rename_i i
    split at h
    · rename_i C fs e
      cases q : cv C n with
      | false => rw [q] at h; cases h
      | true =>
        rw [q] at h
        simp only [cond_true] at h
        split at h
        · rename_i a' e'
          cases q' : cu a' with
          | false => rw [q'] at h; cases h
          | true => rw [q'] at h; cases h; exact ⟨i, C, fs, rfl, e, q, e', q'⟩
        · cases h
    · cases h
  · cases h
theorem rt (O : KOk K) {n : Nat} {a b : AV} {v : Value} {expr : Bool} {k : AV → St → Prop} (C : Cx K d A q sc L f cd h₀) (R : Rl w.params h₀ L s.heap st ρ) (ha : a.Is ρ v) (h : cP n st.objs a = some b) (hk : k b st) :
    wpAny (model prog w) A (getAttr v (nm n) expr) (Post w h₀ L IsV s ρ k) No s := by
  obtain ⟨i, Cl, fs, rfl, hi, hf, hl, hh⟩ := iZ h
  obtain ⟨x, hx, rfl⟩ := ha
  obtain ⟨m, cs, R'⟩ := R
  obtain ⟨x', dx, es, nn, hx', hc, he, I⟩ := R'.inst hi
  obtain rfl : x = x' := Option.some.inj (hx.symm.trans hx')
  obtain ⟨⟨b1, b2, b3, b4⟩, b5, b6⟩ := jr (O.fldOk hf)
  obtain ⟨u, hu, hu'⟩ := he.getS hl
  exact get_own R'.fr C.glo.kin I b1 b2 b5 rfl hu (mI hu' hh) (dP ⟨m, cs, R'⟩ hu' hk)
noncomputable def ak (n : Nat) (T : TE) : TE := fun st k => T st fun a st' => match cP n st'.objs a with
  | some b => k b st'
  | none => False
theorem aD (O : KOk K) {e : Expr} {x : Str} {n : Nat} {pos : Pos} {T : TE} (hn : nm n = x) (he : SE prog w K d q sc f cd en e T) (hb : ∀ env, attributeBase e x env (eval e env) = eval e env) : SE prog w K d q sc f cd en (.Attribute e x pos) (ak n T) := by
  refine ⟨?_⟩
  intro A L h₀ s _tp st ρ k C R H
  subst hn
  refine Attribute_any_ (sq (he.run A L h₀ s inferInstance st ρ _ C R H) fun v h' tk _ a st' σ R' i kk => ?_) (by
    show (do let o ← attributeBase e (nm n) _ (eval e _); _) = _
    rw [hb])
  cases e' : cP n st'.objs a with
  | none => rw [e'] at kk; exact kk.elim
  | some b => rw [e'] at kk; exact go (rt O C R' i e' kk)
noncomputable def eM (n : Nat) (v : AV) (os : List AO) : AV → Option (List AO)
  | .obj i => match os[i]? with
    | some (.inst C fs) => bif cv C n && Nat.ble fs.length 100 then some (os.set i (.inst C (put n v fs))) else none
    | _ => none
  | _ => none
theorem lL (n : Nat) (v : AV) : ∀ l : List (Nat × AV), (put n v l).length ≤ l.length + 1
  | [] => by simp [put]
  | p :: r => by
    unfold put
    cases Nat.beq p.1 n with
    | true => simp
    | false => simp only [cond_false, List.length_cons]; have := lL n v r; lia
theorem qI (O : KOk K) {α β : Type} {I : List Addr → β → α → Prop} {r : α} {r' : β} {n : Nat} {a b : AV} {v u : Value} {os : List AO} {k : β → St → Prop} (C : Cx K d A q sc L f cd h₀) (R : Rl w.params h₀ L s.heap st ρ) (ha : a.Is ρ v) (hb : b.Is ρ u)
    (h : eM n b st.objs a = some os) (hr : I ρ r' r) (hk : k r' { st with objs := os }) : wpAny (model prog w) A (setAttr v (nm n) u) (fun _ => Post w h₀ L I s ρ k r) No s := by
  unfold eM at h
  split at h
  · rename_i i
    split at h
    · rename_i Cl fs hi
      cases qq : (cv Cl n && Nat.ble fs.length 100) with
      | false => rw [qq] at h; cases h
      | true =>
        rw [qq] at h
        cases h
        obtain ⟨hf, hlen⟩ := Bool.and_eq_true_iff.mp qq
        have hlen := Nat.le_of_ble_eq_true hlen
        obtain ⟨x, hx, rfl⟩ := ha
        obtain ⟨m, cs, R'⟩ := R
        obtain ⟨x', dx, es, nn, hx', hc, he, I'⟩ := R'.inst hi
        obtain rfl : x = x' := Option.some.inj (hx.symm.trans hx')
        obtain ⟨⟨b1, b2, b3, b4⟩, b5, b6⟩ := jr (O.fldOk hf)
        have e1 := e8 hc
        have e2 := dZ [(x, instObj Cl dx), (dx, dictOf (putL (nm n) (PyData.keyHash w.params (nm n)) (.str (nm n) (s.toks + 1)) u es) (putN (nm n) es nn))] hc
        have nd := R'.nd
        have hE : ∀ (dd : Obj), (cs.take i).flatten ++ [(x, instObj Cl dx), (dx, dd)] ++ (cs.drop (i + 1)).flatten = ((cs.take i).flatten ++ [(x, instObj Cl dx)]) ++ (dx, dd) :: (cs.drop (i + 1)).flatten := fun dd => by simp
        rw [hE] at e1 e2
        have U := nv (dictOf (putL (nm n) (PyData.keyHash w.params (nm n)) (.str (nm n) (s.toks + 1)) u es) (putN (nm n) es nn)) (by rw [← e1]; exact nd)
        rw [← e1, ← e2] at U
        have hE2 := he.put (n := n) (t := s.toks + 1) hb
        refine set_dict R'.fr C.glo.kin R'.nw I' rfl b3 b4 b6 b2 (he.getSome n) rfl U ?_ fun h' F' N' => ?_
        · have := hE2.len; have := lL n b fs; lia
        · refine dP (st := { st with objs := st.objs.set i (.inst Cl (put n b fs)) }) ⟨m, cs.set i _, F', N', ?_, R'.ob.put hx ⟨dx, _, _, hE2, rfl⟩, R'.lo⟩ hr hk
          rw [e2]
          rw [e1] at nd
          simpa using nd
    · cases h
  · cases h
noncomputable def ah (n : Nat) (Tv To : TE) : TS := fun st k => Tv st fun b st1 => To st1 fun a st2 => match eM n b st2.objs a with
  | some os => k .next { st2 with objs := os }
  | none => False
theorem au (O : KOk K) {e o : Expr} {x : Str} {n : Nat} {ap pos : Pos} {Tv To : TE} (hn : nm n = x) (he : SE prog w K d q sc f cd en e Tv) (ho : SE prog w K d q sc f cd en o To)
    (hs : ∀ env, swapsWith e (some (.Attribute o x ap)) pos.line env = pure false) : S1 prog w K d q sc f cd en (.Assign [.Attribute o x ap] e pos) (ah n Tv To) := by
  refine ⟨?_⟩
  intro A L h₀ s _tp st ρ k C R H
  subst hn
  refine plainObj_wpAny_Assign_Attribute (sq (he.run A L h₀ s inferInstance st ρ _ C R H) fun v h' tk _ b st1 σ R1 i1 k1 => sq (ho.run A L h₀ _ inferInstance st1 _ _ C R1 k1) fun u h2 tk2 _ a st2 σ2 R2 i2 k2 => ?_) (hs _)
  cases e' : eM n b st2.objs a with
  | none => rw [e'] at k2; exact k2.elim
  | some os =>
    rw [e'] at k2
    exact wpAny_mono (qI O (r' := AF.next) C R2 i2 (AV.Is.grow σ2 i1) e' rfl k2) (fun _ _ p => p.up.up) fun _ _ x => x
end
theorem Vals.len {ρ : List Addr} : ∀ {l : List AV} {vs : List Value}, Vals ρ l vs → vs.length = l.length
  | [], _, h => by obtain rfl := h; rfl
  | _ :: _, _, ⟨v, vs', e, _, h⟩ => by subst e; rw [List.length_cons, List.length_cons, h.len]
section
variable {prog : Program} {w : World} {K : Frag} {d : Nat} {q : Str} {sc : Scope} {f : Addr} {cd : Value} {en : Addr → Env}
variable {A : Around} {L : Addr} {h₀ : Heap} {s : Shared} {st : St} {ρ : List Addr}
theorem Cx.deep {fa : Addr} (C : Cx K (d + 1) A q sc L fa cd h₀) {q' : Str} {sc' : Scope} {L' f' : Addr} {cd' : Value} {g : Heap} {A₀ : Around} {base : Heap} {outer : List Env}
    (B : Below A base (envOf q sc L fa cd :: outer) g) (hk : sc'.kind = .function) (st : h₀.StaysIn g) (hA : A.frames = some (envOf q sc L fa cd :: outer)) : Cx K d (A.deeper (envOf q' sc' L' f' cd')) q' sc' L' f' cd' g :=
  ⟨C.glo.keeps st, ⟨A, base, envOf q sc L fa cd :: outer, B, Around.frames_deeper hA⟩, C.hand, by have := C.dep; show A.depth + 1 + _ + 4 < _; lia, by have := C.uni; show A.units + 3 + _ + 40 < _; lia, hk⟩
noncomputable def aX : List TE → St → (List AV → St → Prop) → Prop
  | [], st, k => k [] st
  | T :: r, st, k => T st fun a st' => aX r st' fun as st'' => k (a :: as) st''
inductive AllE (prog : Program) (w : World) (K : Frag) (d : Nat) (q : Str) (sc : Scope) (f : Addr) (cd : Value) (en : Addr → Env) : List Expr → List TE → Prop
  | nil : AllE prog w K d q sc f cd en [] []
  | cons {e : Expr} {r : List Expr} {T : TE} {Ts : List TE} : SE prog w K d q sc f cd en e T → AllE prog w K d q sc f cd en r Ts → AllE prog w K d q sc f cd en (e :: r) (T :: Ts)
theorem gA {es : List Expr} {Ts : List TE} (h : AllE prog w K d q sc f cd en es Ts) : Sd prog w K d q sc f cd en Vals (fun env => spliced (es.map fun e => (false, eval e env))) (aX Ts) := by
  induction h with
  | nil =>
    refine ⟨?_⟩
    intro A L h₀ s _tp st ρ k C R H
    exact spliced_nil (fin (b := ([] : List AV)) R rfl H)
  | cons he _ ih =>
    refine ⟨?_⟩
    intro A L h₀ s _tp st ρ k C R H
    refine spliced_cons (sq (he.run A L h₀ s inferInstance st ρ _ C R H) fun v h' tk _ a st' σ R' i kk => ?_)
    refine sq (ih.run A L h₀ _ inferInstance st' _ _ C R' kk) fun vs h2 tk2 _ as st2 σ2 R2 i2 k2 => ?_
    exact ⟨h2, tk2, a :: as, st2, σ ++ σ2, rfl, by rw [← List.append_assoc]; exact R2, ⟨v, vs, rfl, by rw [← List.append_assoc]; exact AV.Is.grow σ2 i, by rw [← List.append_assoc]; exact i2⟩, k2⟩
noncomputable abbrev eN (es : List Expr) : Prop := ∀ env, starEach es env = es.map fun e => (false, eval e env)
theorem cZ (pos : Pos) (env : Env) : ∀ es : List Expr, backTo pos (es.map fun e => (false, eval e env)) = es.map fun e => (false, eval e env)
  | [] => rfl
  | e :: r => by
    show (false, eval e env) :: backTo pos (r.map fun e => (false, eval e env)) = _
    rw [cZ pos env r]; rfl
theorem e9 (env : Env) : ∀ es : List Expr, (es.map fun e => (false, eval e env)).any (·.1) = false
  | [] => rfl
  | e :: r => by rw [List.map_cons, List.any_cons, e9 env r]; rfl
theorem lM {M : Model} {E : Value → Shared → Prop} {env : Env} {P : Heap → Prop} {es : List Expr} {pos : Pos} {fv : Value} {first : List Value} {Q : Value → Shared → Prop} (hp : eN es)
    (hk : ∀ h, P h → ∃ k, (k = Keeper.frame ∨ k = Keeper.machine ∨ k = Keeper.boundFrame) ∧ Looks M h (keeperOf fv) k)
    (h : wpAny M A (spliced (es.map fun e => (false, eval e env))) (fun vs s₁ => P s₁.heap ∧ wpAny M A (call fv (first ++ vs)) Q E s₁) E s) :
    wpAny M A (callWith pos fv first (backTo pos (starEach es env)) []) Q E s := by
  rw [hp, cZ]
  refine callWith_of (by rw [e9]; rfl) hk ?_
  cases es with
  | nil =>
    have : wpAny M A (spliced []) (fun vs s₁ => P s₁.heap ∧ wpAny M A (call fv (first ++ vs)) Q E s₁) E s := h
    unfold evalArgs
    show wpAny _ _ (spliced [] >>= _) _ _ _
    refine wpAny_bind (wpAny_mono this (fun vs s' h' => wpAny_bind (wpAny_pure (wpAny_holding (wpAny_bind (wpAny_pure (wpAny_bind (wpAny_pure (wpAny_pure h'))))))) ) fun _ _ x => x)
  | cons e r => exact evalArgs_plain h
noncomputable abbrev TF := List AV → List AO → (AV → List AO → Prop) → Prop
noncomputable def RV (Q : Value → Shared → Prop) : Result → Shared → Prop := fun r s' => match r with
  | .ok (.ret v) => Q v s'
  | _ => False
noncomputable def SF (prog : Program) (w : World) (K : Frag) (d : Nat) (fn : Addr) (T : TF) : Prop :=
  ∀ (A : Around) (q : Str) (sc : Scope) (L fa : Addr) (cd : Value) (h₀ : Heap) (s : Shared) (_ : Tk s.toks) (st : St) (ρ : List Addr) (k : AV → St → Prop) (avs : List AV) (vs : List Value),
    Cx K d A q sc L fa cd h₀ → Rl w.params h₀ L s.heap st ρ → Vals ρ avs vs → T avs st.objs (fun v os => k v { st with objs := os }) →
    codeAny (model prog w) A (.call (.ref fn) ⟨vs, []⟩) (RV (Post w h₀ L IsV s ρ k)) s
theorem SF.up {fn : Addr} {T : TF} {d' : Nat} (h : SF prog w K d fn T) (hd : d ≤ d') : SF prog w K d' fn T := fun A q sc L fa cd h₀ s tp st ρ k avs vs C R V H => h A q sc L fa cd h₀ s tp st ρ k avs vs (C.le hd) R V H
theorem SF.call {fn : Addr} {T : TF} [Tk s.toks] (h : SF prog w K d fn T) {k : AV → St → Prop} {avs : List AV} {vs : List Value} (C : Cx K d A q sc L f cd h₀) (R : Rl w.params h₀ L s.heap st ρ) (V : Vals ρ avs vs)
    (H : T avs st.objs (fun v os => k v { st with objs := os })) : wpAny (model prog w) A (PySem.call (.ref fn) vs) (Post w h₀ L IsV s ρ k) No s :=
  wpAny_call (codeAny_mono (h A q sc L f cd h₀ s inferInstance st ρ k avs vs C R V H) fun r s' z => by rcases r with e | (v | _ | _ | _) <;> first | exact z | exact z.elim)
noncomputable def cL (bnd : List AV → Option (List (Nat × AV))) (Tb : TS) : TF := fun avs os k => match bnd avs with
  | none => False
  | some loc => Tb ⟨loc, os⟩ fun fl st' => match fl with
    | .ret v => k v st'.objs
    | .next => k .none st'.objs
    | _ => False
noncomputable def po (w : World) (K : Frag) (fd : FuncData) (bnd : List AV → Option (List (Nat × AV))) : Prop :=
  ∀ (s : Shared) (ρ : List Addr) (avs : List AV) (vs : List Value) (loc : List (Nat × AV)), K.In s.heap → Vals ρ avs vs → bnd avs = some loc →
    ∃ binds, BindsTo s fd ⟨vs, []⟩ binds ∧ (∀ y ∈ binds, fd.scope.names.lookup y.1 = some .local) ∧ Locs ρ (fun y => binds.reverse.lookup y) loc
theorem sC {bnd : List AV → Option (List (Nat × AV))} {Tb : TS} {oc : Value} {od an : Option Addr} {name qual : Str} {params : Arguments} {body : List Stmt} {scope : Scope} {dV kV doc pm cdv ct : Value} {osl : Array (Option Value)} {fn : Addr}
    (hl : K.lookup fn = some ⟨oc, od, .func (fnOf name qual params body scope dV kV doc pm an cdv ct), osl⟩) (hcd : codeIn K cdv qual = true)
    (hb : po w K (fnOf name qual params body scope dV kV doc pm an cdv ct) bnd) (hbody : SS prog w K d qual scope fn cdv (fl qual scope fn cdv) body Tb)
    (hco : scope.isCoroutine = false) (hgen : scope.isGenerator = false) (hk : scope.kind = .function) (hcell : ∀ x ∈ scope.names, x.2 ≠ .cell) :
    SF prog w K (d + 1) fn (cL bnd Tb) := by
  intro A q sc L fa cd h₀ s _tp st ρ k avs vs C R V H
  unfold cL at H
  cases e : bnd avs with
  | none => rw [e] at H; exact H.elim
  | some loc =>
    rw [e] at H
    obtain ⟨m, cs, R'⟩ := R
    obtain ⟨A₀, base, outer, B, hA⟩ := C.bel
    have X := C.glo.kin.keeps R'.fr.keep
    obtain ⟨p, loose, mg, mb, TT⟩ := C.glo.top
    obtain ⟨binds, hbt, hloc, hlo⟩ := hb s ρ avs vs loc X V e
    refine call_K B R'.fr R'.nw X TT.nolimit hA hl hcd (by have := C.dep; lia) hbt hloc (fun g L' h₁ FG F' N' B' stay => ?_) C.kind hco hgen hk hcell
    have C' : Cx K d (A.deeper (envOf qual scope L' fn cdv)) qual scope L' fn cdv g := C.deep (A₀ := A₀) B' hk stay hA
    refine wpAny_mono (hbody.run _ L' g { s with heap := h₁, toks := s.toks + binds.length } inferInstance ⟨loc, st.objs⟩ ρ _ C' ⟨_, cs, F', N', R'.nd, R'.ob, hlo⟩ H) (fun fl s' pp => ?_) fun _ _ x => x.elim
    obtain ⟨h', tk, b, st', σ, rfl, ⟨m', cs', R2⟩, i, kk⟩ := pp
    have done : ∀ v (av : AV), av.Is (ρ ++ σ) v → k av { st with objs := st'.objs } → LeaveK h₀ L m g (RV (Post w h₀ L IsV s ρ k)) v { s with heap := h', toks := tk } := fun v av iv hk' =>
      leaveK_ R2.fr R2.nw fun FK NK => ⟨h', tk, av, { st with objs := st'.objs }, σ, rfl, ⟨m, cs', FK, NK, R2.nd, R2.ob, R'.lo.grow σ⟩, iv, hk'⟩
    cases b with
    | next => obtain rfl : fl = .next := i; exact done .none .none rfl kk
    | brk => exact kk.elim
    | cont => exact kk.elim
    | ret a => obtain ⟨v, rfl, iv⟩ := i; exact done v a iv kk
noncomputable def aW (Tf : TF) (Ts : List TE) : TE := fun st k => aX Ts st fun avs st' => Tf avs st'.objs fun v os => k v { st' with objs := os }
theorem d3 {fn : Addr} {Tf : TF} {x : Str} {xp pos : Pos} {es : List Expr} {Ts : List TE} (hf : SF prog w K d fn Tf) (e : nsIn K mainGlobals x = some (some (.ref fn))) (hk : keepIn K (.ref fn) = true) (ge : GE en x) (hd : (x == ("__debug__" : Str)) = false)
    (hp : eN es) (ha : AllE prog w K d q sc f cd en es Ts) (hc : ∀ env, eval (.Call (.Name x xp) es [] pos) env = (do callWith pos (← eval (.Name x xp) env) [] (backTo pos (starEach es env)) (backToKw pos (keywordEach [] env)))) :
    SE prog w K d q sc f cd en (.Call (.Name x xp) es [] pos) (aW Tf Ts) := by
  refine ⟨?_⟩
  intro A L h₀ s _tp st ρ k C R H
  obtain ⟨m, cs, R'⟩ := R
  refine Call_ (nx C.glo R'.fr e ge hd ?_) (hc _)
  refine lM hp (keeps_K hk) (sq ((gA ha).run A L h₀ s inferInstance st ρ _ C ⟨m, cs, R'⟩ H) fun vs h' tk _ avs st' σ R1 i kk => ⟨?_, ?_⟩)
  · obtain ⟨m1, cs1, R1'⟩ := R1; exact C.glo.kin.keeps R1'.fr.keep
  · exact go (hf.call C R1 i kk)
theorem pq (O : KOk K) {n : Nat} {i : Nat} {Cl fn : Addr} {fs : List (Nat × AV)} {x : Addr} {pl : Sem Bool} {Q : Value × List Value → Shared → Prop} {E : Value → Shared → Prop} (C : Cx K d A q sc L f cd h₀) (R : Rl w.params h₀ L s.heap st ρ)
    (hi : st.objs[i]? = some (.inst Cl fs)) (hx : ρ[i]? = some x) (hm : cw Cl n cr = some fn) (hn : ag n fs = none) (h : Q (.ref fn, [.ref x]) s) : wpAny (model prog w) A (getMethod (.ref x) (nm n) pl) Q E s := by
  obtain ⟨m, cs, R'⟩ := R
  obtain ⟨x', dx, es, nn, hx', hc, he, I⟩ := R'.inst hi
  obtain rfl : x = x' := Option.some.inj (hx.symm.trans hx')
  obtain ⟨⟨b1, b2, b3, b4⟩, b5, b6, b7⟩ := js (O.mthOk hm)
  exact method_inst R'.fr C.glo.kin I b1 b5 b6 (he.getN hn) h
noncomputable def eW (n : Nat) (os : List AO) : AV → Option Nat
  | .obj i => match os[i]? with
    | some (.inst C fs) => match ag n fs with
      | none => cw C n cr
      | some _ => none
    | _ => none
  | _ => none
noncomputable def aI (n : Nat) (fn : Nat) (Tf : TF) (To : TE) (Ts : List TE) : TE := fun st k => To st fun a st1 => match eW n st1.objs a with
  | some g => bif Nat.beq g fn then aX Ts st1 fun avs st2 => Tf (a :: avs) st2.objs fun v os => k v { st2 with objs := os } else False
  | none => False
noncomputable abbrev fP (o : Expr) (x : Str) (ap pos : Pos) (es : List Expr) : Prop := ∀ env, ∃ pl, eval (.Call (.Attribute o x ap) es [] pos) env = (do
      let ov ← eval o env
      standAt ap.atName
      let (f, first) ← holding [ov] (getMethod ov x pl)
      callWith pos f first (backTo pos (starEach es env)) (backToKw pos (keywordEach [] env)))
theorem bC (O : KOk K) {n fn : Nat} {Tf : TF} {o : Expr} {x : Str} {ap pos : Pos} {es : List Expr} {To : TE} {Ts : List TE} (hn : nm n = x) (hf : SF prog w K d fn Tf) (ho : SE prog w K d q sc f cd en o To) (hp : eN es) (ha : AllE prog w K d q sc f cd en es Ts)
    (hc : fP o x ap pos es) : SE prog w K d q sc f cd en (.Call (.Attribute o x ap) es [] pos) (aI n fn Tf To Ts) := by
  refine ⟨?_⟩
  intro A L h₀ s _tp st ρ k C R H
  subst hn
  obtain ⟨pl, he⟩ := hc (en L)
  refine methodCall_KW (pl := pl) (sq (ho.run A L h₀ s inferInstance st ρ _ C R H) fun v h' tk _ a st1 σ R1 i kk => ?_) he
  unfold eW at kk
  split at kk
  · rename_i g eg
    split at eg
    · rename_i i'
      split at eg
      · rename_i Cl fs hi
        split at eg
        · rename_i hno
          cases eq : Nat.beq g fn with
          | false => rw [eq] at kk; exact kk.elim
          | true =>
            rw [eq] at kk
            obtain rfl := Nat.eq_of_beq_eq_true eq
            obtain ⟨xa, hx, rfl⟩ := i
            obtain ⟨_, _, _, b7⟩ := js (O.mthOk eg)
            refine pq O C R1 hi hx eg hno ?_
            refine lM hp (keeps_K b7) (sq ((gA ha).run A L h₀ _ inferInstance st1 _ _ C R1 kk) fun vs h2 tk2 _ avs st2 σ2 R2 i2 k2 => ⟨?_, ?_⟩)
            · obtain ⟨m1, cs1, R1'⟩ := R2; exact C.glo.kin.keeps R1'.fr.keep
            · have hx2 : (AV.obj i').Is (ρ ++ σ ++ σ2) (.ref xa) := AV.Is.grow σ2 ⟨xa, hx, rfl⟩
              exact wpAny_mono (hf.call (avs := AV.obj i' :: avs) (vs := Value.ref xa :: vs) C R2 ⟨_, _, rfl, hx2, i2⟩ k2) (fun _ _ p => p.up.up) fun _ _ x => x
        · cases eg
      · cases eg
    · cases eg
  · exact kk.elim
end
section
variable {prog : Program} {w : World} {K : Frag} {d : Nat} {q : Str} {sc : Scope} {f : Addr} {cd : Value} {en : Addr → Env}
variable {A : Around} {L : Addr} {h₀ : Heap} {s : Shared} {st : St} {ρ : List Addr}
theorem Rel.add {P : Params} {h h' : Heap} {m : Str → Option Value} {cs : List (List (Addr × Obj))} {ao : AO} {x : Addr} {c : List (Addr × Obj)} (R : Rel P h₀ L h st ρ m cs) (F' : Fr h₀ L h' m) (N' : News h₀ L h' (c ++ cs.flatten))
    (hn : (c.map (·.1)).Nodup) (hlt : ∀ p ∈ cs.flatten, ∀ r ∈ c, p.1 < r.1) (hc : ao.Cells P (ρ ++ [x]) x c) : Rel P h₀ L h' { st with objs := st.objs ++ [ao] } (ρ ++ [x]) m (cs ++ [c]) := by
  refine ⟨F', fun p hp => ?_, ?_, (R.ob.grow [x]).push hc, R.lo.grow [x]⟩
  · rw [List.flatten_append] at hp
    rcases List.mem_append.mp hp with h1 | h1
    · exact N' p (List.mem_append_right _ h1)
    · simp only [List.flatten_cons, List.flatten_nil, List.append_nil] at h1
      exact N' p (List.mem_append_left _ h1)
  · rw [List.flatten_append, List.map_append, List.nodup_append]
    refine ⟨R.nd, by simpa using hn, fun a ha b hb e => ?_⟩
    obtain ⟨p, hp, rfl⟩ := List.mem_map.mp ha
    simp only [List.flatten_cons, List.flatten_nil, List.append_nil] at hb
    obtain ⟨r, hr, rfl⟩ := List.mem_map.mp hb
    have := hlt p hp r hr
    rw [e] at this
    exact Nat.lt_irrefl _ this
theorem Rel.len {P : Params} {h : Heap} {m : Str → Option Value} {cs : List (List (Addr × Obj))} (R : Rel P h₀ L h st ρ m cs) : ρ.length = st.objs.length := R.ob.len.1
theorem ei {ρ : List Addr} {n : Nat} {x : Addr} (h : ρ.length = n) : (ρ ++ [x])[n]? = some x := by subst h; simp
theorem Rel.add1 {P : Params} {h h' : Heap} {m : Str → Option Value} {cs : List (List (Addr × Obj))} {ao : AO} {x : Addr} {o : Obj} (R : Rel P h₀ L h st ρ m cs) (F' : Fr h₀ L h' m) (N' : News h₀ L h' ((x, o) :: cs.flatten))
    (hlt : ∀ p ∈ cs.flatten, p.1 < x) (hc : ao.Cells P (ρ ++ [x]) x [(x, o)]) : Rel P h₀ L h' { st with objs := st.objs ++ [ao] } (ρ ++ [x]) m (cs ++ [[(x, o)]]) :=
  R.add (c := [(x, o)]) F' N' (by simp) (fun p hp r hr => by rcases List.mem_singleton.mp hr with rfl; exact hlt p hp) hc
theorem fb {P : Params} {k : AV → St → Prop} {h' : Heap} {tk : Nat} {m : Str → Option Value} {cs : List (List (Addr × Obj))} {ao : AO} {x : Addr} {o : Obj} (hP : P = w.params) (R : Rel P h₀ L s.heap st ρ m cs) (F' : Fr h₀ L h' m) (N' : News h₀ L h' ((x, o) :: cs.flatten))
    (hlt : ∀ p ∈ cs.flatten, p.1 < x) (hc : ao.Cells P (ρ ++ [x]) x [(x, o)]) (hk : k (.obj st.objs.length) { st with objs := st.objs ++ [ao] }) : Post w h₀ L IsV s ρ k (.ref x) { s with heap := h', toks := tk } := by
  subst hP
  exact sA (b := AV.obj st.objs.length) ⟨m, _, R.add1 F' N' hlt hc⟩ ⟨x, ei R.len, rfl⟩ hk
noncomputable def qJ (K : Frag) (x : Str) (fn : Addr) : Bool := specialIn K (.ref fn) "__get__" == some (some (.builtin "function.__get__")) && takesIn K (.ref fn) == some false && !copiedNames.contains x
noncomputable def tm : List (Nat × Nat) := cr.filterMap fun p => bif Nat.beq p.2.1 N.bn then none else some (p.2.1, p.2.2)
structure KOk2 (K : Frag) : Prop extends KOk K where
  bnd : ∀ p ∈ cr, qJ K (nm p.2.1) p.2.2 = true
theorem Cells.meth {P : Params} {ρ : List Addr} {fn : Addr} {a : AV} {v : Value} {x : Addr} (h : a.Is ρ v) : (AO.meth fn a).Cells P (ρ ++ [x]) x [(x, methodObj (.ref fn) v)] := ⟨v, h.grow [x], rfl⟩
noncomputable def bg (n : Nat) (To : TE) : TE := fun st k => To st fun a st1 => match eW n st1.objs a with
  | some g => k (.obj st1.objs.length) { st1 with objs := st1.objs ++ [.meth g a] }
  | none => False
theorem qK (O : KOk2 K) {n : Nat} {i : Nat} {Cl fn : Addr} {fs : List (Nat × AV)} {x : Addr} {expr : Bool} {k : AV → St → Prop} (C : Cx K d A q sc L f cd h₀) (R : Rl w.params h₀ L s.heap st ρ)
    (hi : st.objs[i]? = some (.inst Cl fs)) (hx : ρ[i]? = some x) (hm : cw Cl n cr = some fn) (hn : ag n fs = none) (hk : k (.obj st.objs.length) { st with objs := st.objs ++ [.meth fn (.obj i)] }) :
    wpAny (model prog w) A (getAttr (.ref x) (nm n) expr) (Post w h₀ L IsV s ρ k) No s := by
  obtain ⟨m, cs, R'⟩ := R
  obtain ⟨x', dx, es, nn, hx', hc, he, I⟩ := R'.inst hi
  obtain rfl : x = x' := Option.some.inj (hx.symm.trans hx')
  obtain ⟨⟨b1, b2, b3, b4⟩, b5, b6, b7⟩ := js (O.mthOk hm)
  have hg := O.bnd _ (hN hm)
  simp only [qJ, Bool.and_eq_true, beq_iff_eq, Bool.not_eq_true'] at hg
  obtain ⟨⟨g1, g2⟩, g3⟩ := hg
  exact kbm_bound R'.fr C.glo.kin R'.nw I b1 b2 b5 b6 g1 g2 g3 (he.getN hn) fun qq h' F' N' hlt => fb rfl R' F' N' hlt (Cells.meth (a := AV.obj i) ⟨x, hx, rfl⟩) hk
inductive MethI (n : Nat) (os : List AO) (a : AV) (g : Nat) : Prop
  | mk (i C : Nat) (fs : List (Nat × AV)) (h1 : a = .obj i) (h2 : os[i]? = some (.inst C fs)) (h3 : ag n fs = none) (h4 : cw C n cr = some g) : MethI n os a g
theorem mJ {n : Nat} {os : List AO} {a : AV} {g : Nat} (h : eW n os a = some g) : MethI n os a g := by
  unfold eW at h
  split at h
  · rename_i i
    split at h
    · rename_i C fs e
      split at h
      · rename_i e'; exact ⟨i, C, fs, rfl, e, e', h⟩
      · cases h
    · cases h
  · cases h
theorem bE (O : KOk2 K) {e : Expr} {x : Str} {n : Nat} {pos : Pos} {T : TE} (hn : nm n = x) (he : SE prog w K d q sc f cd en e T) (hb : ∀ env, attributeBase e x env (eval e env) = eval e env) : SE prog w K d q sc f cd en (.Attribute e x pos) (bg n T) := by
  refine ⟨?_⟩
  intro A L h₀ s _tp st ρ k C R H
  subst hn
  refine Attribute_any_ (sq (he.run A L h₀ s inferInstance st ρ _ C R H) fun v h' tk _ a st' σ R' i kk => ?_) (by
    show (do let o ← attributeBase e (nm n) _ (eval e _); _) = _
    rw [hb])
  cases e' : eW n st'.objs a with
  | none => rw [e'] at kk; exact kk.elim
  | some b =>
    rw [e'] at kk
    obtain ⟨i', Cl, fs, rfl, hi, hl, hm⟩ := mJ e'
    obtain ⟨xa, hx, rfl⟩ := i
    exact go (qK O C R' hi hx hm hl kk)
noncomputable def fQ (C n : Nat) (z : Int) (To : TE) : TE := fun st k => To st fun a st1 => match a with
  | .obj i => match st1.objs[i]? with
    | some (.inst C' fs) => match ag n fs with
      | none => bif Nat.beq C' C then k (.int z) st1 else False
      | some _ => False
    | _ => False
  | _ => False
theorem pt {Cl n : Nat} {z : Int} {t : Tok} {e : Expr} {x : Str} {pos : Pos} {T : TE} (hn : nm n = x) (he : SE prog w K d q sc f cd en e T) (hb : ∀ env, attributeBase e x env (eval e env) = eval e env)
    (hc : kb K Cl = true) (ha : findIn K (.ref Cl) x = some (some (.int z t))) (hg : specialIn K (.int z t) "__get__" = some none) (hx : copiedNames.contains x = false) : SE prog w K d q sc f cd en (.Attribute e x pos) (fQ Cl n z T) := by
  refine ⟨?_⟩
  intro A L h₀ s _tp st ρ k C R H
  subst hn
  refine Attribute_any_ (sq (he.run A L h₀ s inferInstance st ρ _ C R H) fun v h' tk _ a st' σ R' i kk => ?_) (by
    show (do let o ← attributeBase e (nm n) _ (eval e _); _) = _
    rw [hb])
  split at kk
  · rename_i i'
    split at kk
    · rename_i C' fs hi
      split at kk
      · rename_i hl
        cases eq : Nat.beq C' Cl with
        | false => rw [eq] at kk; exact kk.elim
        | true =>
          rw [eq] at kk
          obtain rfl := Nat.eq_of_beq_eq_true eq
          obtain ⟨xa, hxa, rfl⟩ := i
          obtain ⟨m, cs, R2⟩ := R'
          obtain ⟨x', dx, es, nn, hx', hcc, hE, I⟩ := R2.inst hi
          obtain rfl : xa = x' := Option.some.inj (hxa.symm.trans hx')
          simp only [kb, Bool.and_eq_true, beq_iff_eq] at hc
          obtain ⟨⟨⟨b1, b2⟩, b3⟩, b4⟩ := hc
          exact go (get_cls R2.fr C.glo.kin I b1 b2 ha hg rfl hx (hE.getN hl) (dP (b := AV.int z) ⟨m, cs, R2⟩ ⟨t, rfl⟩ kk))
      · exact kk.elim
    · exact kk.elim
  · exact kk.elim
noncomputable def iQ (n : Nat) (FT : Nat → Option TF) (To : TE) (Ts : List TE) : TE := fun st k => To st fun a st1 => ∃ j g self Tf, cP n st1.objs a = some (.obj j) ∧ st1.objs[j]? = some (.meth g self) ∧ FT g = some Tf ∧ aX Ts st1 fun avs st2 => ∃ self2, st2.objs[j]? = some (.meth g self2) ∧ Tf (self2 :: avs) st2.objs fun v os => k v { st2 with objs := os }
inductive MAt (w : World) (h : Heap) (ρ : List Addr) (cs : List (List (Addr × Obj))) (i g : Nat) (self : AV) : Prop
  | mk (x : Addr) (v : Value) (h1 : ρ[i]? = some x) (h2 : self.Is ρ v) (h3 : (x, methodObj (.ref g) v) ∈ cs.flatten) : MAt w h ρ cs i g self
inductive MHt (h : Heap) (ρ : List Addr) (i g : Nat) (self : AV) : Prop
  | mk (x : Addr) (v : Value) (h1 : ρ[i]? = some x) (h2 : self.Is ρ v) (h3 : h.get? x = some (methodObj (.ref g) v)) : MHt h ρ i g self
theorem Rel.meth {m : Str → Option Value} {cs : List (List (Addr × Obj))} {h : Heap} (R : Rel w.params h₀ L h st ρ m cs) {i g : Nat} {self : AV} (hi : st.objs[i]? = some (.meth g self)) :
    MAt w h ρ cs i g self := by
  obtain ⟨x, c, hx, hc, v, hv, rfl⟩ := R.ob.get hi
  exact ⟨x, v, hx, hv, bH hc (.head _)⟩
theorem Rl.meth {h : Heap} (R : Rl w.params h₀ L h st ρ) {i g : Nat} {self : AV} (hi : st.objs[i]? = some (.meth g self)) : MHt h ρ i g self := by
  obtain ⟨m, cs, R'⟩ := R
  obtain ⟨x, v, hx, hv, hm⟩ := R'.meth hi
  exact ⟨x, v, hx, hv, (R'.nw _ hm).1⟩
theorem qL (O : KOk K) {n : Nat} {FT : Nat → Option TF} {o : Expr} {x : Str} {ap pos : Pos} {es : List Expr} {To : TE} {Ts : List TE} (hn : nm n = x) (hf : ∀ g Tf, FT g = some Tf → SF prog w K d g Tf ∧ fnIn K g = true) (ho : SE prog w K d q sc f cd en o To)
    (hp : eN es) (ha : AllE prog w K d q sc f cd en es Ts) (hc : fP o x ap pos es) : SE prog w K d q sc f cd en (.Call (.Attribute o x ap) es [] pos) (iQ n FT To Ts) := by
  refine ⟨?_⟩
  intro A L h₀ s _tp st ρ k C R H
  subst hn
  obtain ⟨pl, he⟩ := hc (en L)
  refine methodCall_KW (pl := pl) (sq (ho.run A L h₀ s inferInstance st ρ _ C R H) fun v h' tk _ a st1 σ R1 i kk => ?_) he
  obtain ⟨j, g, self1, Tf, e2, e3, eTf, kk⟩ := kk
  obtain ⟨hSF, hfn⟩ := hf _ _ eTf
  obtain ⟨i', Cl, fs, rfl, hi, hfl, hl, hh⟩ := iZ e2
  obtain ⟨xa, hxa, rfl⟩ := i
  have R1c := R1
  obtain ⟨m, cs, R1'⟩ := R1
  obtain ⟨x', dx, es', nn, hx', hcc, hE, I⟩ := R1'.inst hi
  obtain rfl : xa = x' := Option.some.inj (hxa.symm.trans hx')
  obtain ⟨⟨b1, b2, b3, b4⟩, b5, b6⟩ := jr (O.fldOk hfl)
  obtain ⟨u, hu, qa, hqa, rfl⟩ := hE.getS hl
  refine kmu_own R1'.fr C.glo.kin I b1 b5 (get_own R1'.fr C.glo.kin I b1 b2 b5 rfl hu rfl ?_)
  obtain ⟨qa', v1, hq1, hv1, hg1⟩ := R1c.meth e3
  obtain rfl : qa = qa' := Option.some.inj (hqa.symm.trans hq1)
  refine lM (first := []) hp (P := fun h => ∃ self, MethP K qa g self h) (fun h ⟨self, X⟩ => keeps_M hfn h X) (sq ((gA ha).run A L h₀ { s with heap := h', toks := tk + 1 } inferInstance st1 _ _ C ⟨m, cs, R1'⟩ kk) fun vs h2 tk2 _ avs st2 σ2 R2 i2 k2 => ?_)
  obtain ⟨self2, e4, k2⟩ := k2
  have R2c := R2
  obtain ⟨m2, cs2, R2'⟩ := R2
  obtain ⟨qb, v2, hq2, hv2, hm2⟩ := R2'.meth e4
  obtain rfl : qa = qb := Option.some.inj (((List.getElem?_append_left ((List.getElem?_eq_some_iff.mp hqa).1)).trans hqa).symm.trans hq2)
  refine ⟨⟨v2, (R2'.nw _ hm2).1, C.glo.kin.keeps R2'.fr.keep⟩, call_meth R2'.nw hm2 ?_⟩
  refine codeAny_mono (hSF _ _ _ _ _ _ _ _ inferInstance _ _ _ (self2 :: avs) (v2 :: vs) C R2c ⟨v2, vs, rfl, hv2, i2⟩ k2) fun r s' z => ?_
  rcases r with e | (v | _ | _ | _) <;> first | exact z.elim | exact (show Post w h₀ L IsV s ρ k _ s' from Post.at (s := s) z.up.up)
end
section
variable {prog : Program} {w : World} {K : Frag} {d : Nat} {q : Str} {sc : Scope} {f : Addr} {cd : Value} {en : Addr → Env}
variable {A : Around} {L : Addr} {h₀ : Heap} {s : Shared} {st : St} {ρ : List Addr}
theorem Cx.under {fa : Addr} (C : Cx K (d + 1) A q sc L fa cd h₀) (Cl : Addr) (vs : List Value) : Cx K d (A.under (.builtin "type.__call__" ⟨.ref Cl :: vs, []⟩)) q sc L fa cd h₀ :=
  ⟨C.glo, let ⟨A₀, base, outer, B, hA⟩ := C.bel; ⟨A₀, base, outer, B, hA⟩, C.hand, by have := C.dep; show A.depth + 1 + _ + 4 < _; lia, by have := C.uni; show A.units + 1 + _ + 40 < _; lia, C.kind⟩
noncomputable def hW (Cl : Addr) (Tf : TF) (Ts : List TE) : TE := fun st k => aX Ts st fun avs st2 => Tf (.obj st2.objs.length :: avs) (st2.objs ++ [.inst Cl []]) fun v os => match v with
  | .none => k (.obj st2.objs.length) { st2 with objs := os }
  | _ => False
theorem pu {Cl fI : Addr} {Tf : TF} {x : Str} {xp pos : Pos} {es : List Expr} {Ts : List TE} (hf : SF prog w K d fI Tf) (hm : makesIn K Cl = true) (hi : findIn K (.ref Cl) "__init__" = some (some (.ref fI))) (hfn : isFn K (.ref fI) = true)
    (e : nsIn K mainGlobals x = some (some (.ref Cl))) (hk : keepIn K (.ref Cl) = true) (ge : GE en x) (hd : (x == ("__debug__" : Str)) = false)
    (hp : eN es) (ha : AllE prog w K (d + 1) q sc f cd en es Ts) (hc : ∀ env, eval (.Call (.Name x xp) es [] pos) env = (do callWith pos (← eval (.Name x xp) env) [] (backTo pos (starEach es env)) (backToKw pos (keywordEach [] env)))) :
    SE prog w K (d + 1) q sc f cd en (.Call (.Name x xp) es [] pos) (hW Cl Tf Ts) := by
  refine ⟨?_⟩
  intro A L h₀ s _tp st ρ k C R H
  obtain ⟨m, cs, R'⟩ := R
  refine Call_ (nx C.glo R'.fr e ge hd ?_) (hc _)
  refine lM hp (keeps_K hk) (sq ((gA ha).run A L h₀ s inferInstance st ρ _ C ⟨m, cs, R'⟩ H) fun vs h' tk _ avs st' σ R1 i kk => ⟨?_, ?_⟩)
  · obtain ⟨m1, cs1, R1'⟩ := R1; exact C.glo.kin.keeps R1'.fr.keep
  · obtain ⟨m1, cs1, R1'⟩ := R1
    refine go (σ := σ) (call_cls R1'.fr C.glo.kin R1'.nw hm hi hfn fun xa dx h2 F' N' hlt hlt2 => ?_)
    have RN : Rel w.params h₀ L h2 { st' with objs := st'.objs ++ [.inst Cl []] } (ρ ++ σ ++ [xa]) m1 (cs1 ++ [[(xa, instObj Cl dx), (dx, dictOf [] 0)]]) :=
      R1'.add (c := [(xa, instObj Cl dx), (dx, dictOf [] 0)]) F' N' (by simp; exact Nat.ne_of_gt hlt2) (fun p hp r hr => by
        rcases List.mem_cons.mp hr with rfl | hr
        · exact Nat.lt_trans (hlt p hp) hlt2
        · rcases List.mem_singleton.mp hr with rfl; exact hlt p hp) ⟨dx, [], 0, rfl, rfl⟩
    refine codeAny_mono (hf _ _ _ _ _ _ _ { s with heap := h2, toks := tk } inferInstance { st' with objs := st'.objs ++ [.inst Cl []] } (ρ ++ σ ++ [xa]) (fun v stt => v = .none ∧ k (.obj st'.objs.length) stt) (.obj st'.objs.length :: avs) (.ref xa :: vs) (C.under Cl vs) ⟨_, _, RN⟩
      ⟨.ref xa, vs, rfl, ⟨xa, ei R1'.len, rfl⟩, i.grow [xa]⟩ ?_) fun r s' z => ?_
    · exact cast (congrArg (Tf _ _) (funext fun v => funext fun os => by cases v <;> simp)) kk
    · rcases r with e | (_ | _ | _ | v)
      · exact z.elim
      · exact z.elim
      · exact z.elim
      · exact z.elim
      · obtain ⟨h3, tk3, b, st3, σ3, rfl, R3, i3, rfl, k3⟩ := z
        obtain rfl : v = .none := i3
        refine ⟨rfl, h3, tk3, .obj st'.objs.length, st3, [xa] ++ σ3, rfl, by rw [← List.append_assoc]; exact R3, ?_, k3⟩
        rw [← List.append_assoc]
        exact AV.Is.grow (a := .obj st'.objs.length) σ3 ⟨xa, ei R1'.len, rfl⟩
end
theorem qM {a b : List Nat} : (txt a = txt b) ↔ a = b := by
  constructor
  · intro h; simpa [txt] using h
  · rintro rfl; rfl
theorem fR (a b : List Nat) : (txt a == txt b) = decide (a = b) := by
  rw [Bool.eq_iff_iff, beq_iff_eq, decide_eq_true_eq, qM]
theorem ia (a b : List Nat) : txt a ++ txt b = txt (a ++ b) := by
  show (⟨a.toArray ++ b.toArray⟩ : Str) = ⟨(a ++ b).toArray⟩
  simp
theorem a9 (a : List Nat) : (txt a).length = a.length := by
  show a.toArray.size = _; simp
theorem ru (a : List Nat) : (txt a).cps.toList = a := rfl
noncomputable def Fit (s : List Nat) : Prop := s.length ≤ 1000000
theorem Fit.le {s : List Nat} (h : Fit s) : s.length ≤ sizeLine := Nat.le_trans h (by decide)
noncomputable def eqS (a b : AV) : Option Bool := match a with
  | .none => match b with
    | .none => some true
    | .bool _ => some false
    | .int _ => some false
    | .str _ => some false
    | _ => none
  | .bool a => match b with
    | .none => some false
    | .bool b => some (decide (a = b))
    | .str _ => some false
    | _ => none
  | .int a => match b with
    | .none => some false
    | .int b => some (decide (a = b))
    | .str _ => some false
    | _ => none
  | .str a => match b with
    | .none => some false
    | .bool _ => some false
    | .int _ => some false
    | .str b => some (decide (a = b))
    | _ => none
  | _ => none
inductive EqS : AV → AV → Bool → Prop
  | nn : EqS .none .none true
  | ns (a : List Nat) : EqS .none (.str a) false
  | ni (a : Int) : EqS .none (.int a) false
  | nb (a : Bool) : EqS .none (.bool a) false
  | sn (a : List Nat) : EqS (.str a) .none false
  | ni' (a : Int) : EqS (.int a) .none false
  | bn (a : Bool) : EqS (.bool a) .none false
  | ss (a b : List Nat) : EqS (.str a) (.str b) (decide (a = b))
  | ii (a b : Int) : EqS (.int a) (.int b) (decide (a = b))
  | bb (a b : Bool) : EqS (.bool a) (.bool b) (decide (a = b))
  | si (a : List Nat) (b : Int) : EqS (.str a) (.int b) false
  | is (a : Int) (b : List Nat) : EqS (.int a) (.str b) false
  | sb (a : List Nat) (b : Bool) : EqS (.str a) (.bool b) false
  | bs (a : Bool) (b : List Nat) : EqS (.bool a) (.str b) false
theorem gN {a b : AV} {r : Bool} (h : eqS a b = some r) : EqS a b r := by
  cases a <;> cases b <;> first | (cases h; done) | (cases h; constructor)
open PySem.SeqAt in
theorem lh {ρ : List Addr} {A : Around} {s : Shared} {a b : AV} {x y : Value} {r : Bool} (h : eqS a b = some r) (ha : a.Is ρ x) (hb : b.Is ρ y) : EqAt A s x y r := by
  cases gN h
  · obtain rfl := ha; obtain rfl := hb; exact EqAt.same _
  · obtain rfl := ha; obtain ⟨t, rfl⟩ := hb; exact EqAt.none_str _ _
  · obtain rfl := ha; obtain ⟨t, rfl⟩ := hb; exact EqAt.none_int _ _
  · obtain rfl := ha; obtain rfl := hb; exact EqAt.none_bool _
  · obtain ⟨t, rfl⟩ := ha; obtain rfl := hb; exact EqAt.str_none _ _
  · obtain ⟨t, rfl⟩ := ha; obtain rfl := hb; exact EqAt.int_none _ _
  · obtain rfl := ha; obtain rfl := hb; exact EqAt.bool_none _
  · obtain ⟨t, rfl⟩ := ha; obtain ⟨u, rfl⟩ := hb; rw [← fR]; exact EqAt.str_str _ _ _ _
  · obtain ⟨t, rfl⟩ := ha; obtain ⟨u, rfl⟩ := hb; exact EqAt.int_int _ _ _ _
  · obtain rfl := ha; obtain rfl := hb; exact EqAt.bool_bool _ _
  · obtain ⟨t, rfl⟩ := ha; obtain ⟨u, rfl⟩ := hb; exact EqAt.str_int _ _ _ _
  · obtain ⟨t, rfl⟩ := ha; obtain ⟨u, rfl⟩ := hb; exact EqAt.int_str _ _ _ _
  · obtain ⟨t, rfl⟩ := ha; obtain rfl := hb; exact EqAt.str_bool _ _ _
  · obtain rfl := ha; obtain ⟨u, rfl⟩ := hb; exact EqAt.bool_str _ _ _
structure Tabs where
  seqs : List (Nat × Bool × List AV)
  dicts : List (Nat × List (List Nat × AV))
noncomputable def pv (n : Nat) : List (Nat × Bool × List AV) → Option (Bool × List AV)
  | [] => none
  | p :: r => bif Nat.beq p.1 n then some p.2 else pv n r
noncomputable def i0 (n : Nat) : List (Nat × List (List Nat × AV)) → Option (List (List Nat × AV))
  | [] => none
  | p :: r => bif Nat.beq p.1 n then some p.2 else i0 n r
noncomputable def dj (x : List Nat) : List (List Nat × AV) → Option AV
  | [] => none
  | p :: r => if p.1 = x then some p.2 else dj x r
noncomputable def Lits (P : Params) : List (List Nat × AV) → List DictEntry → Prop
  | [], es => es = []
  | p :: r, es => ∃ t v es', es = ⟨PyData.keyHash P (txt p.1), .str (txt p.1) t, v⟩ :: es' ∧ p.2.Is [] v ∧ Lits P r es'
structure TOk (P : Params) (K : Frag) (T : Tabs) : Prop where
  seq : ∀ p ∈ T.seqs, ∃ ws n, K.lookup p.1 = some ⟨.type (if p.2.1 then "tuple" else "list"), none, .seq (ws : List Value).toArray n, #[]⟩ ∧ Vals [] p.2.2 ws
  dict : ∀ p ∈ T.dicts, ∃ es n, K.lookup p.1 = some ⟨.type "dict", none, .dict (es : List DictEntry).toArray n, #[]⟩ ∧ Lits P p.2 es ∧ (p.1 == sysModules) = false
theorem kc {n : Nat} {x : Bool × List AV} : ∀ {l}, pv n l = some x → (n, x) ∈ l
  | p :: r, h => by
    unfold pv at h
    cases q : Nat.beq p.1 n with
    | true => rw [q] at h; cases h; rw [← Nat.eq_of_beq_eq_true q]; exact .head _
    | false => rw [q] at h; exact .tail _ (kc h)
theorem gs {n : Nat} {x : List (List Nat × AV)} : ∀ {l}, i0 n l = some x → (n, x) ∈ l
  | p :: r, h => by
    unfold i0 at h
    cases q : Nat.beq p.1 n with
    | true => rw [q] at h; cases h; rw [← Nat.eq_of_beq_eq_true q]; exact .head _
    | false => rw [q] at h; exact .tail _ (gs h)
theorem Is.nil {ρ : List Addr} {a : AV} {v : Value} (h : a.Is [] v) : a.Is ρ v := by simpa using AV.Is.grow ρ h
theorem Vals.nil {ρ : List Addr} {l : List AV} {vs : List Value} (h : Vals [] l vs) : Vals ρ l vs := by simpa using Vals.grow ρ h
theorem Lits.find {P : Params} {x : List Nat} : ∀ {fs : List (List Nat × AV)} {es : List DictEntry}, Lits P fs es →
    match dj x fs with
    | some a => ∃ v, (es.find? (fun d => Value.isStrOf (txt x) d.key)).map (·.val) = some v ∧ a.Is [] v
    | none => (es.find? (fun d => Value.isStrOf (txt x) d.key)).map (·.val) = none
  | [], _, h => by obtain rfl := h; rfl
  | p :: r, _, ⟨t, v, es', e, hv, h⟩ => by
    subst e
    have ih := h.find (x := x)
    unfold dj
    rw [List.find?_cons]
    have hk : Value.isStrOf (txt x) (.str (txt p.1) t) = decide (p.1 = x) := by
      rw [← fR]; rfl
    dsimp only
    rw [hk]
    by_cases q : p.1 = x
    · rw [if_pos q, decide_eq_true q]; exact ⟨_, rfl, hv⟩
    · rw [if_neg q, decide_eq_false q]; exact ih
theorem Lits.keys {P : Params} : ∀ {fs : List (List Nat × AV)} {es : List DictEntry}, Lits P fs es → KeysLit P es
  | [], _, h => by obtain rfl := h; trivial
  | p :: r, _, ⟨t, v, es', e, hv, h⟩ => by subst e; exact ⟨⟨_, t, rfl, rfl⟩, h.keys⟩
noncomputable def bt (T : Tabs) (os : List AO) : AV → Option (Bool × List AV)
  | .obj i => match os[i]? with
    | some (.list vs) => some (false, vs)
    | some (.tup vs) => some (true, vs)
    | _ => none
  | .glob (.ref a) => pv a T.seqs
  | _ => none
noncomputable def dQ (g : AV → AV → Option Bool) : List AV → List AV → Option Bool
  | a :: r, b :: r' => match g a b, dQ g r r' with
    | some x, some y => some (x && y)
    | _, _ => none
  | _, _ => some true
noncomputable def sD (g : AV → AV → Option Bool) (p : Bool) (l r : List AV) : Option Bool := match p with
  | true => match dQ g l r with
    | some x => some (x && Nat.beq l.length r.length)
    | none => none
  | false => bif Nat.beq l.length r.length then dQ g l r else some false
noncomputable def li (T : Tabs) (os : List AO) (g : AV → AV → Option Bool) (a b : AV) : Option Bool := match bt T os a with
  | none => match bt T os b with
    | none => eqS a b
    | some _ => none
  | some p => match bt T os b with
    | none => none
    | some q => bif p.1 == q.1 then sD g p.1 p.2 q.2 else none
noncomputable def deq (T : Tabs) (os : List AO) : Nat → AV → AV → Option Bool
  | 0, a, b => eqS a b
  | n + 1, a, b => li T os (deq T os n) a b
section
variable {prog : Program} {w : World} {K : Frag} {d : Nat} {q : Str} {sc : Scope} {f : Addr} {cd : Value}
variable {A : Around} {L : Addr} {h₀ : Heap} {s : Shared} {st : St} {ρ : List Addr} {T : Tabs}
inductive SeqI (h : Heap) (ρ : List Addr) (tp : Bool) (l : List AV) (v : Value) : Prop
  | mk (x : Addr) (ws : List Value) (o : Obj) (h1 : v = .ref x) (h2 : Vals ρ l ws) (h3 : h.get? x = some o) (h4 : o.cls = .type (if tp then "tuple" else "list")) (n : Nat) (h5 : o.data = .seq ws.toArray n) : SeqI h ρ tp l v
theorem c7 (O : TOk w.params K T) {h : Heap} (G : Glo K h₀) (R : Rl w.params h₀ L h st ρ) {a : AV} {v : Value} {tp : Bool} {l : List AV} (ha : a.Is ρ v) (e : bt T st.objs a = some (tp, l)) :
    SeqI h ρ tp l v := by
  obtain ⟨m, cs, R'⟩ := R
  unfold bt at e
  split at e
  · rename_i i
    obtain ⟨x, hx, rfl⟩ := ha
    split at e
    · rename_i vs hi
      cases e
      obtain ⟨x', c, hx', hc, ws, n, hv, rfl⟩ := R'.ob.get hi
      obtain rfl : x = x' := Option.some.inj (hx.symm.trans hx')
      exact ⟨x, ws, _, rfl, hv, (R'.nw _ (bH hc (.head _))).1, rfl, n, rfl⟩
    · rename_i vs hi
      cases e
      obtain ⟨x', c, hx', hc, ws, hv, rfl⟩ := R'.ob.get hi
      obtain rfl : x = x' := Option.some.inj (hx.symm.trans hx')
      exact ⟨x, ws, _, rfl, hv, (R'.nw _ (bH hc (.head _))).1, rfl, _, rfl⟩
    · cases e
  · rename_i a'
    obtain rfl := ha
    obtain ⟨ws, n, h1, h2⟩ := O.seq _ (kc e)
    exact ⟨a', ws, _, rfl, h2.nil, R'.fr.keep _ _ (G.kin _ _ h1), rfl, n, rfl⟩
  · cases e
open PySem.SeqAt in
theorem jt {ρ : List Addr} {A : Around} {s : Shared} {a b : AV} {x y : Value} {r : Bool} (h : eqS a b = some r) (ha : a.Is ρ x) (hb : b.Is ρ y) : RcAt A s x y r ∧ RcNeAt A s x y (!r) := by
  cases gN h
  · obtain rfl := ha; obtain rfl := hb; exact ⟨RcAt.none_none, RcNeAt.none_none⟩
  · obtain rfl := ha; obtain ⟨t, rfl⟩ := hb; exact ⟨RcAt.none_str _ _, RcNeAt.none_str _ _⟩
  · obtain rfl := ha; obtain ⟨t, rfl⟩ := hb; exact ⟨RcAt.none_int _ _, RcNeAt.none_int _ _⟩
  · obtain rfl := ha; obtain rfl := hb; exact ⟨RcAt.none_bool _, RcNeAt.none_bool _⟩
  · obtain ⟨t, rfl⟩ := ha; obtain rfl := hb; exact ⟨RcAt.str_none _ _, RcNeAt.str_none _ _⟩
  · obtain ⟨t, rfl⟩ := ha; obtain rfl := hb; exact ⟨RcAt.int_none _ _, RcNeAt.int_none _ _⟩
  · obtain rfl := ha; obtain rfl := hb; exact ⟨RcAt.bool_none _, RcNeAt.bool_none _⟩
  · obtain ⟨t, rfl⟩ := ha; obtain ⟨u, rfl⟩ := hb; rw [← fR]; exact ⟨RcAt.str_str _ _ _ _, RcNeAt.str_str _ _ _ _⟩
  · obtain ⟨t, rfl⟩ := ha; obtain ⟨u, rfl⟩ := hb; exact ⟨RcAt.int_int _ _ _ _, RcNeAt.int_int _ _ _ _⟩
  · obtain rfl := ha; obtain rfl := hb; exact ⟨RcAt.bool_bool _ _, RcNeAt.bool_bool _ _⟩
  · obtain ⟨t, rfl⟩ := ha; obtain ⟨u, rfl⟩ := hb; exact ⟨RcAt.str_int _ _ _ _, RcNeAt.str_int _ _ _ _⟩
  · obtain ⟨t, rfl⟩ := ha; obtain ⟨u, rfl⟩ := hb; exact ⟨RcAt.int_str _ _ _ _, RcNeAt.int_str _ _ _ _⟩
  · obtain ⟨t, rfl⟩ := ha; obtain rfl := hb; exact ⟨RcAt.str_bool _ _ _, RcNeAt.str_bool _ _ _⟩
  · obtain rfl := ha; obtain ⟨u, rfl⟩ := hb; exact ⟨RcAt.bool_str _ _ _, RcNeAt.bool_str _ _ _⟩
noncomputable def eqV (a b : Value) : Bool := match a with
  | .none => match b with
    | .none => true
    | _ => false
  | .bool a => match b with
    | .bool b => a == b
    | _ => false
  | .int a _ => match b with
    | .int b _ => a == b
    | _ => false
  | .str a _ => match b with
    | .str b _ => a == b
    | _ => false
  | _ => false
theorem qg {ρ : List Addr} {a b : AV} {x y : Value} {r : Bool} (h : eqS a b = some r) (ha : a.Is ρ x) (hb : b.Is ρ y) : eqV x y = r := by
  cases gN h
  · obtain rfl := ha; obtain rfl := hb; rfl
  · obtain rfl := ha; obtain ⟨t, rfl⟩ := hb; rfl
  · obtain rfl := ha; obtain ⟨t, rfl⟩ := hb; rfl
  · obtain rfl := ha; obtain rfl := hb; rfl
  · obtain ⟨t, rfl⟩ := ha; obtain rfl := hb; rfl
  · obtain ⟨t, rfl⟩ := ha; obtain rfl := hb; rfl
  · obtain rfl := ha; obtain rfl := hb; rfl
  · obtain ⟨t, rfl⟩ := ha; obtain ⟨u, rfl⟩ := hb; rw [← fR]; rfl
  · obtain ⟨t, rfl⟩ := ha; obtain ⟨u, rfl⟩ := hb; rfl
  · obtain rfl := ha; obtain rfl := hb; rfl
  · obtain ⟨t, rfl⟩ := ha; obtain ⟨u, rfl⟩ := hb; rfl
  · obtain ⟨t, rfl⟩ := ha; obtain ⟨u, rfl⟩ := hb; rfl
  · obtain ⟨t, rfl⟩ := ha; obtain rfl := hb; rfl
  · obtain rfl := ha; obtain ⟨u, rfl⟩ := hb; rfl
theorem ke {v : Value} {a b : AV} {r : Bool} (h : eqS a b = some r) (ha : a.Is ρ v) (hb : b.Is ρ v) : r = true := by
  have h1 := qg h ha hb
  cases gN h
  all_goals (first | (obtain rfl := ha) | (obtain ⟨t, rfl⟩ := ha))
  all_goals (first | (cases hb; done) | (obtain ⟨u, hb⟩ := hb; cases hb; done) | skip)
  all_goals (first | rfl | (rw [← h1]; simp [eqV]))
theorem sE (a b : Nat) : Nat.beq a b = (a == b) := by
  by_cases h : a = b
  · subst h; simp
  · rw [hG (fun e => h e.symm)]; exact (beq_eq_false_iff_ne.mpr h).symm
theorem ib {g : AV → AV → Option Bool} : ∀ {l r : List AV} {x : Bool}, dQ g l r = some x → x = (List.range (min l.length r.length)).all (fun j => (g (l.getD j .none) (r.getD j .none)).getD true)
  | [], _, x, h => by unfold dQ at h; cases h; simp
  | _ :: _, [], x, h => by unfold dQ at h; cases h; simp
  | a :: l, b :: r, x, h => by
    unfold dQ at h
    cases e1 : g a b with
    | none => rw [e1] at h; cases h
    | some p =>
      cases e2 : dQ g l r with
      | none => rw [e1, e2] at h; cases h
      | some q =>
        rw [e1, e2] at h
        cases h
        have ih := ib e2
        rw [List.length_cons, List.length_cons, Nat.succ_min_succ, List.range_succ_eq_map, List.all_cons, List.all_map, ih]
        simp [e1, Function.comp_def]
theorem lN {g : AV → AV → Option Bool} : ∀ {l r : List AV} {x : Bool} {j : Nat}, dQ g l r = some x → j < l.length → j < r.length → ∃ y, g (l.getD j .none) (r.getD j .none) = some y
  | [], _, x, _, h, h1, _ => by cases h1
  | _ :: _, [], x, _, h, _, h2 => by cases h2
  | a :: l, b :: r, x, j, h, h1, h2 => by
    unfold dQ at h
    cases e1 : g a b with
    | none => rw [e1] at h; cases h
    | some p =>
      cases e2 : dQ g l r with
      | none => rw [e1, e2] at h; cases h
      | some q =>
        cases j with
        | zero => exact ⟨p, e1⟩
        | succ j => exact lN (j := j) e2 (Nat.lt_of_succ_lt_succ h1) (Nat.lt_of_succ_lt_succ h2)
theorem Vals.at {l : List AV} {ws : List Value} (h : Vals ρ l ws) : ∀ {j : Nat} (h1 : j < ws.length), (l.getD j .none).Is ρ ws[j] := by
  induction l generalizing ws with
  | nil => obtain rfl := h; intro j h1; cases h1
  | cons a r ih =>
    obtain ⟨v, vs', rfl, hv, hr⟩ := h
    intro j h1
    cases j with
    | zero => exact hv
    | succ j => exact ih hr (Nat.lt_of_succ_lt_succ h1)
open PySem.SeqAt in
theorem nA (O : TOk w.params K T) (G : Glo K h₀) (R : Rl w.params h₀ L s.heap st ρ) : ∀ (n : Nat) (A : Around) (a b : AV) (x y : Value) (r : Bool), A.units + n + 2 < cLine → deq T st.objs n a b = some r → a.Is ρ x → b.Is ρ y →
    (RcAt A s x y r ∧ RcNeAt A s x y (!r) ∧ EqAt A s x y r) ∧ (x = y → r = true) := by
  intro n
  induction n with
  | zero => intro A a b x y r hu h ha hb; exact ⟨⟨(jt h ha hb).1, (jt h ha hb).2, lh h ha hb⟩, fun e => by subst e; exact ke h ha hb⟩
  | succ n ih =>
    intro A a b x y r hu h ha hb
    have hu1 : A.units < cLine := by lia
    have hu2 : (A.in1).units + n + 2 < cLine := by show A.units + 1 + n + 2 < _; lia
    have h : li T st.objs (deq T st.objs n) a b = some r := h
    unfold li at h
    cases e1 : bt T st.objs a with
    | none =>
      rw [e1] at h
      cases e2 : bt T st.objs b with
      | none => rw [e2] at h; exact ⟨⟨(jt h ha hb).1, (jt h ha hb).2, lh h ha hb⟩, fun e => by subst e; exact ke h ha hb⟩
      | some _ => rw [e2] at h; cases h
    | some pl =>
      obtain ⟨p, l⟩ := pl
      rw [e1] at h
      cases e2 : bt T st.objs b with
      | none => rw [e2] at h; cases h
      | some pr =>
        obtain ⟨p', l'⟩ := pr
        rw [e2] at h
        dsimp only at h
        cases ep : p == p' with
        | false => rw [ep] at h; cases h
        | true =>
          rw [ep] at h
          obtain rfl : p = p' := eq_of_beq ep
          obtain ⟨xa, ws, o, rfl, hv, g1, g2, nn, g3⟩ := c7 O G R ha e1
          obtain ⟨xb, ws', o', rfl, hv', g1', g2', nn', g3'⟩ := c7 O G R hb e2
          have n1 := hv.len
          have n2 := hv'.len
          have same : xa = xb → ws = ws' := fun e => by
            subst e
            obtain rfl : o = o' := Option.some.inj (g1.symm.trans g1')
            have := g3.symm.trans g3'
            injection this with q1 q2
            exact congrArg Array.toList q1
          have key : ∀ z, dQ (deq T st.objs n) l l' = some z → (∀ j (h1 : j < ws.toArray.size) (h2 : j < ws'.toArray.size), EqAt A.in1 s ws.toArray[j] ws'.toArray[j] ((deq T st.objs n (l.getD j .none) (l'.getD j .none)).getD true)) ∧
              z = (List.range (min ws.toArray.size ws'.toArray.size)).all (fun j => (deq T st.objs n (l.getD j .none) (l'.getD j .none)).getD true) ∧ (xa = xb → z = true) := fun z e3 => by
            have each : ∀ j (h1 : j < ws.length) (h2 : j < ws'.length), (EqAt A.in1 s ws[j] ws'[j] ((deq T st.objs n (l.getD j .none) (l'.getD j .none)).getD true)) ∧ (ws[j] = ws'[j] → (deq T st.objs n (l.getD j .none) (l'.getD j .none)).getD true = true) := fun j h1 h2 => by
              obtain ⟨yy, hy⟩ := lN (j := j) e3 (n1 ▸ h1) (n2 ▸ h2)
              have := ih A.in1 _ _ _ _ yy hu2 hy (hv.at h1) (hv'.at h2)
              rw [hy]
              exact ⟨this.1.2.2, this.2⟩
            have ez := ib e3
            rw [← n1, ← n2] at ez
            refine ⟨fun j h1 h2 => (each j h1 h2).1, ez, fun e => ?_⟩
            obtain rfl := same e
            rw [ez, List.all_eq_true]
            intro j hj
            rw [Nat.min_self] at hj
            have hj := List.mem_range.mp hj
            exact (each j hj hj).2 rfl
          have fin : ∀ r, RcAt A s (.ref xa) (.ref xb) r → RcNeAt A s (.ref xa) (.ref xb) (!r) → (xa = xb → r = true) → (RcAt A s (.ref xa) (.ref xb) r ∧ RcNeAt A s (.ref xa) (.ref xb) (!r) ∧ EqAt A s (.ref xa) (.ref xb) r) ∧ (Value.ref xa = .ref xb → r = true) := fun r c1 c2 c3 => by
            refine ⟨⟨c1, c2, ?_⟩, fun e => c3 (by injection e)⟩
            by_cases e : xa = xb
            · rw [c3 e]; subst e; exact EqAt.same _
            · exact EqAt.of_refs e c1
          cases p with
          | true =>
            have hl : s.heap.IsTuple xa ws.toArray := ⟨o, g1, g2, nn, g3⟩
            have hl' : s.heap.IsTuple xb ws'.toArray := ⟨o', g1', g2', nn', g3'⟩
            have h : (match dQ (deq T st.objs n) l l' with | some x => some (x && Nat.beq l.length l'.length) | none => none) = some r := h
            cases e3 : dQ (deq T st.objs n) l l' with
            | none => rw [e3] at h; cases h
            | some z =>
              rw [e3] at h
              obtain rfl : (z && Nat.beq l.length l'.length) = r := Option.some.inj h
              obtain ⟨el, ez, es⟩ := key z e3
              have hz : (z && Nat.beq l.length l'.length) = ((List.range (min ws.toArray.size ws'.toArray.size)).all (fun j => (deq T st.objs n (l.getD j .none) (l'.getD j .none)).getD true) && ws.toArray.size == ws'.toArray.size) := by
                rw [← ez, List.size_toArray, List.size_toArray, n1, n2, sE]
              refine fin _ (by rw [hz]; exact RcAt.tuples hl hl' hu1 el) (by rw [hz]; exact RcNeAt.tuples hl hl' hu1 el) fun e => ?_
              obtain rfl := same e
              rw [es e, ← n1, ← n2, Nat.beq_refl]; rfl
          | false =>
            have hl : s.heap.IsList xa ws.toArray := ⟨o, g1, g2, nn, g3⟩
            have hl' : s.heap.IsList xb ws'.toArray := ⟨o', g1', g2', nn', g3'⟩
            have h : (bif Nat.beq l.length l'.length then dQ (deq T st.objs n) l l' else some false) = some r := h
            cases eL : Nat.beq l.length l'.length with
            | true =>
              rw [eL] at h
              have eL : ws.toArray.size = ws'.toArray.size := by rw [List.size_toArray, List.size_toArray, n1, n2]; exact Nat.eq_of_beq_eq_true eL
              obtain ⟨el, ez, es⟩ := key r h
              rw [← eL, Nat.min_self] at ez
              exact fin r (by rw [ez]; exact RcAt.lists hl hl' eL hu1 el) (by rw [ez]; exact RcNeAt.lists hl hl' eL hu1 el) es
            | false =>
              rw [eL] at h
              obtain rfl : false = r := Option.some.inj h
              have hne : ws.toArray.size ≠ ws'.toArray.size := fun e => by rw [List.size_toArray, List.size_toArray, n1, n2] at e; rw [e, Nat.beq_refl] at eL; cases eL
              exact fin _ (RcAt.lists_lengths hl hl' (bne_iff_ne.mpr hne) hu1) (RcNeAt.lists_lengths hl hl' (bne_iff_ne.mpr hne) hu1) fun e => absurd (by rw [same e]) hne
noncomputable def isA (a b : AV) : Option Bool := match a with
  | .none => match b with
    | .none => some true
    | .glob _ => none
    | _ => some false
  | .bool a => match b with
    | .none => some false
    | .bool b => some (a == b)
    | _ => none
  | .glob _ => none
  | _ => match b with
    | .none => some false
    | _ => none
theorem nB {a b : AV} {x y : Value} {r : Bool} (e : isA a b = some r) (ha : a.Is ρ x) (hb : b.Is ρ y) : plainIs x y = true ∧ (x == y) = r := by
  cases a <;> cases b <;> first | (cases e; done) | cases e
  · obtain rfl := ha; obtain rfl := hb; exact ⟨rfl, rfl⟩
  · obtain rfl := ha; obtain rfl := hb; exact ⟨rfl, rfl⟩
  · obtain rfl := ha; obtain ⟨t, rfl⟩ := hb; exact ⟨rfl, rfl⟩
  · obtain rfl := ha; obtain ⟨t, rfl⟩ := hb; exact ⟨rfl, rfl⟩
  · obtain rfl := ha; obtain ⟨t, _, rfl⟩ := hb; exact ⟨rfl, rfl⟩
  · obtain rfl := ha; obtain rfl := hb; exact ⟨rfl, rfl⟩
  · obtain rfl := ha; obtain rfl := hb; rename_i a b; exact ⟨rfl, by cases a <;> cases b <;> rfl⟩
  · obtain ⟨t, rfl⟩ := ha; obtain rfl := hb; exact ⟨rfl, rfl⟩
  · obtain ⟨t, rfl⟩ := ha; obtain rfl := hb; exact ⟨rfl, rfl⟩
  · obtain ⟨t, _, rfl⟩ := ha; obtain rfl := hb; exact ⟨rfl, rfl⟩
noncomputable def gF (a : AV) : List AV → Option Bool
  | [] => some false
  | b :: r => match eqS b a, gF a r with
    | some x, some y => some (x || y)
    | _, _ => none
noncomputable def inA (T : Tabs) (os : List AO) (a b : AV) : Option Bool := match b with
  | .str y => match a with
    | .str x => some (Txt.contains (txt y) (txt x))
    | _ => none
  | .glob (.ref g) => match i0 g T.dicts with
    | some fs => match a with
      | .str x => some (dj x fs).isSome
      | _ => none
    | none => match bt T os (.glob (.ref g)) with
      | some (true, l) => gF a l
      | _ => none
  | .obj i => match bt T os (.obj i) with
      | some (true, l) => gF a l
      | _ => none
  | _ => none
noncomputable def mK (f : Int → Int → Bool) (a b : AV) : Option Bool := match a with
  | .int a => match b with
    | .int b => some (f a b)
    | _ => none
  | _ => none
theorem nC {f : Int → Int → Bool} {a b : AV} {r : Bool} (h : mK f a b = some r) : ∃ i j, a = .int i ∧ b = .int j ∧ f i j = r := by
  cases a with
  | int i =>
    cases b with
    | int j => exact ⟨i, j, rfl, rfl, Option.some.inj h⟩
    | _ => cases h
  | _ => cases h
noncomputable def rx (a : List Nat) (b : AV) : Option Bool := match b with
  | .str b => some (!decide (b < a))
  | _ => none
noncomputable def ry (a b : AV) : Option Bool := match a with
  | .str a => rx a b
  | a => mK (fun a b => decide (a ≤ b)) a b
noncomputable def kf (o : Option Bool) : Option Bool := match o with
  | some r => some (!r)
  | none => none
theorem ic {o : Option Bool} {r : Bool} (h : kf o = some r) : ∃ q, o = some q ∧ (!q) = r := by
  cases o with
  | none => cases h
  | some q => exact ⟨q, rfl, Option.some.inj h⟩
noncomputable def bz (T : Tabs) (os : List AO) (op : CmpOp) (a b : AV) : Option Bool := match op with
  | .Eq => deq T os 4 a b
  | .NotEq => kf (deq T os 4 a b)
  | .Lt => mK (fun a b => decide (a < b)) a b
  | .LtE => ry a b
  | .Gt => mK (fun a b => decide (b < a)) a b
  | .GtE => mK (fun a b => decide (b ≤ a)) a b
  | .Is => isA a b
  | .IsNot => kf (isA a b)
  | .In => inA T os a b
  | .NotIn => kf (inA T os a b)
theorem lO {a : AV} {x : Value} (ha : a.Is ρ x) : ∀ {l : List AV} {ws : List Value} {r : Bool}, gF a l = some r → Vals ρ l ws → (∀ y ∈ ws, ∃ b, b.Is ρ y ∧ eqS b a = some (eqV y x)) ∧ ws.any (eqV · x) = r
  | [], _, r, h, hv => by obtain rfl := hv; cases h; exact ⟨fun y hy => (List.not_mem_nil hy).elim, rfl⟩
  | b :: l, _, r, h, ⟨v, vs', e, hv, hr⟩ => by
    subst e
    unfold gF at h
    cases e1 : eqS b a with
    | none => rw [e1] at h; cases h
    | some p =>
      cases e2 : gF a l with
      | none => rw [e1, e2] at h; cases h
      | some q =>
        rw [e1, e2] at h
        cases h
        obtain ⟨i1, i2⟩ := lO ha e2 hr
        have hp := qg e1 hv ha
        refine ⟨fun y hy => ?_, ?_⟩
        · rcases List.mem_cons.mp hy with rfl | hy
          · exact ⟨b, hv, by rw [hp]; exact e1⟩
          · exact i1 y hy
        · rw [List.any_cons, i2, hp]
theorem kg {x y : Value} {r : Bool} {k' : Value → Shared → Prop} {E : Value → Shared → Prop} (h : wpAny (model prog w) A (compareOp .In x y) (fun v s' => v = .bool r ∧ k' (.bool (!r)) s') E s) :
    wpAny (model prog w) A (compareOp .NotIn x y) k' E s := by
  have h1 : wpAny (model prog w) A (PySem.contains y x) (fun b s' => b = r ∧ k' (.bool (!r)) s') E s := fun Γ p hΓ => by
    have := h Γ p hΓ
    have e : compareOp .In x y = (do let b ← PySem.contains y x; return Value.bool b) := rfl
    rw [e, Sem.wp_bind'] at this
    refine Sem.wp_mono _ _ _ (fun b p' s' h' => ?_) (fun _ _ _ h' => h') _ _ this
    rw [Sem.wp_pure'] at h'
    exact ⟨by injection h'.1, h'.2⟩
  show wpAny _ _ (do return Value.bool (!(← PySem.contains y x))) _ _ _
  exact wpAny_bind (wpAny_mono h1 (fun b s' h' => wpAny_pure (by rw [h'.1]; exact h'.2)) fun _ _ x => x)
open PySem.SeqAt in
theorem nE (O : TOk w.params K T) {Q : Value → Shared → Prop} {E : Value → Shared → Prop} (G : Glo K h₀) (R : Rl w.params h₀ L s.heap st ρ) (hu : A.units + 10 < cLine) {a b : AV} {x y : Value} {r : Bool} (ha : a.Is ρ x) (hb : b.Is ρ y)
    (e : inA T st.objs a b = some r) (h : ∀ tk, Q (.bool r) { s with toks := tk }) : wpAny (model prog w) A (compareOp .In x y) Q E s := by
  have seqCase : ∀ l, bt T st.objs b = some (true, l) → gF a l = some r → wpAny (model prog w) A (compareOp .In x y) Q E s := by
    intro l e1 e2
    obtain ⟨xa, ws, o, rfl, hv, g1, g2, nn, g3⟩ := c7 O G R hb e1
    obtain ⟨i1, i2⟩ := lO ha e2 hv
    refine in_tupleAt (eqV · x) ⟨o, g1, g2, nn, g3⟩ (fun y hy => ?_) ?_
    · obtain ⟨b', hb', he⟩ := i1 y (by simpa using hy)
      exact lh he hb' ha
    · rw [← Array.any_toList]
      rw [i2]
      exact h s.toks
  unfold inA at e
  split at e
  · rename_i y'
    obtain ⟨u, rfl⟩ := hb
    split at e
    · obtain ⟨t, rfl⟩ := ha
      cases e
      exact SB.contains (h s.toks)
    · cases e
  · rename_i g
    obtain rfl := hb
    split at e
    · rename_i fs e1
      split at e
      · rename_i x'
        cases e
        obtain ⟨t, rfl⟩ := ha
        obtain ⟨es, n, h1, h2, h3⟩ := O.dict _ (gs e1)
        obtain ⟨m, cs, R'⟩ := R
        have hm := mapOf_K (prog := prog) (w := w) (G.kin.keeps R'.fr.keep) h1 (by simpa using h2.keys)
        refine wpAny_in_of (strKind_is prog w (txt x') t) h3 hm ?_
        have hf := h2.find (x := x')
        have : (findBy Value.isStrOf es.toArray (txt x')).isSome = (dj x' fs).isSome := by
          unfold findBy
          rw [List.find?_toArray]
          cases q : dj x' fs with
          | none => rw [q] at hf; rw [hf]; rfl
          | some a => rw [q] at hf; obtain ⟨v, hv, _⟩ := hf; rw [hv]; rfl
        rw [this]
        exact h _
      · cases e
    · split at e
      · rename_i l e2; exact seqCase l e2 e
      · cases e
  · rename_i i
    split at e
    · rename_i l e2; exact seqCase l e2 e
    · cases e
  · cases e
theorem nF {a b : List Nat} : decide ((txt b).cps.toList < (txt a).cps.toList) = decide (b < a) := rfl
theorem nG (O : TOk w.params K T) {Q : Value → Shared → Prop} {E : Value → Shared → Prop} (G : Glo K h₀) (R : Rl w.params h₀ L s.heap st ρ) (hu : A.units + 10 < cLine) {op : CmpOp} {a b : AV} {x y : Value} {r : Bool} (ha : a.Is ρ x) (hb : b.Is ρ y)
    (e : bz T st.objs op a b = some r) (h : ∀ tk, Q (.bool r) { s with toks := tk }) : wpAny (model prog w) A (compareOp op x y) Q E s := by
  have h0 : Q (.bool r) s := h s.toks
  have num : ∀ f : Int → Int → Bool, mK f a b = some r → (∀ i j t u, Q (.bool (f i j)) s → wpAny (model prog w) A (compareOp op (.int i t) (.int j u)) Q E s) → wpAny (model prog w) A (compareOp op x y) Q E s := fun f h1 h2 => by
    obtain ⟨i, j, rfl, rfl, rfl⟩ := nC h1
    obtain ⟨t, rfl⟩ := ha
    obtain ⟨u, rfl⟩ := hb
    exact h2 i j t u h0
  cases op with
  | Eq => exact (nA O G R 4 A _ _ _ _ _ (by lia) e ha hb).1.1 prog w E Q h0
  | NotEq => obtain ⟨q, e', rfl⟩ := ic e; exact (nA O G R 4 A _ _ _ _ _ (by lia) e' ha hb).1.2.1 prog w E Q h0
  | Lt => exact num _ e fun i j t u h => lt_int h
  | LtE =>
    cases a with
    | str z =>
      have e : rx z b = some r := e
      cases b with
      | str z' => obtain ⟨t, rfl⟩ := ha; obtain ⟨u, rfl⟩ := hb; cases e; exact PySem.P.le_str h0
      | _ => cases e
    | int i => exact num (fun a b => decide (a ≤ b)) e fun i j t u h => le_int h
    | _ => cases e
  | Gt => exact num _ e fun i j t u h => gt_int h
  | GtE => exact num _ e fun i j t u h => ge_int h
  | Is => obtain ⟨p1, p2⟩ := nB e ha hb; exact wpAny_is_plain p1 (by rw [p2]; exact h0)
  | IsNot => obtain ⟨q, e', rfl⟩ := ic e; obtain ⟨p1, p2⟩ := nB e' ha hb; exact wpAny_isNot_plain p1 (by rw [p2]; exact h0)
  | In => exact nE O G R hu ha hb e h
  | NotIn => obtain ⟨q, e', rfl⟩ := ic e; exact kg (nE O G R hu ha hb e' fun tk => ⟨rfl, h tk⟩)
theorem fc (O : TOk w.params K T) [Tk s.toks] {Q : Value → Shared → Prop} {E : Value → Shared → Prop} (G : Glo K h₀) (R : Rl w.params h₀ L s.heap st ρ) (hu : A.units + 10 < cLine) {op : CmpOp} {a b : AV} {x y : Value} {r : Bool} (ha : a.Is ρ x) (hb : b.Is ρ y)
    (e : bz T st.objs op a b = some r) (h : ∀ tk, Tk tk → Q (.bool r) { s with toks := tk }) : wpAny (model prog w) A (compareOp op x y) Q E s := jp (nG O G R hu ha hb e fun tk t => h tk t)
end
theorem kh : typeLookup (.type "method") "__bool__" = pure none := by rw [typeLookup_type, builtinLookup_eq_fast]; kernel_rfl
theorem lj : typeLookup (.type "method") "__len__" = pure none := by rw [typeLookup_type, builtinLookup_eq_fast]; kernel_rfl
section
variable {prog : Program} {w : World} {K : Frag} {d : Nat} {q : Str} {sc : Scope} {f : Addr} {cd : Value} {en : Addr → Env}
variable {A : Around} {L : Addr} {h₀ : Heap} {s : Shared} {st : St} {ρ : List Addr} {T : Tabs}
noncomputable def eS (T : Tabs) (os : List AO) : AV → Option Bool
  | .none => some false
  | .bool b => some b
  | .int i => some (i != 0)
  | .str x => bif Nat.ble x.length 1000000 then some (!x.isEmpty) else none
  | .obj i => match os[i]? with
    | some (.meth _ _) => some true
    | some (.list l) => bif Nat.ble l.length 1000000 then some (!l.isEmpty) else none
    | _ => none
  | .glob _ => none
theorem nH {Q : Bool → Shared → Prop} {E : Value → Shared → Prop} (R : Rl w.params h₀ L s.heap st ρ) {a : AV} {x : Value} {r : Bool} (ha : a.Is ρ x) (e : eS T st.objs a = some r) (h : ∀ tk, Q r { s with toks := tk }) :
    wpAny (model prog w) A (truthy x) Q E s := by
  have h0 : Q r s := h s.toks
  unfold eS at e
  split at e
  · obtain rfl := ha; cases e; exact truthy_none h0
  · obtain rfl := ha; cases e; exact wpAny_truthy_bool h0
  · obtain ⟨t, rfl⟩ := ha; cases e; exact PySem.P.truthy_int h0
  · rename_i y
    obtain ⟨t, rfl⟩ := ha
    cases q : Nat.ble y.length 1000000 with
    | false => rw [q] at e; cases e
    | true =>
      rw [q] at e
      cases e
      have hl := Nat.le_of_ble_eq_true q
      refine PySem.P.truthy_str (by rw [a9]; lia) ?_
      have : (((txt y).length : Int) != 0) = !y.isEmpty := by
        rw [a9]; cases y with
        | nil => rfl
        | cons c r => simp [bne]; lia
      rw [this]
      exact h _
  · rename_i i
    obtain ⟨xa, hx, rfl⟩ := ha
    obtain ⟨m, cs, R'⟩ := R
    split at e
    · rename_i g self hi
      cases e
      obtain ⟨x', c, hx', hc, v, hv, rfl⟩ := R'.ob.get hi
      obtain rfl : xa = x' := Option.some.inj (hx.symm.trans hx')
      have hT : s.TypeIs (.ref xa) "method" := ⟨_, (R'.nw _ (bH hc (.head _))).1, rfl⟩
      unfold truthy
      refine wpAny_bind (wpAny_callSpecial?_none (name := Str.ofString "__bool__") hT kh ?_)
      exact wpAny_bind (wpAny_specialOf (name := Str.ofString "__len__") hT lj (wpAny_pure h0))
    · rename_i l hi
      cases q : Nat.ble l.length 1000000 with
      | false => rw [q] at e; cases e
      | true =>
        rw [q] at e
        cases e
        have hl := Nat.le_of_ble_eq_true q
        obtain ⟨x', c, hx', hc, ws, n, hv, rfl⟩ := R'.ob.get hi
        obtain rfl : xa = x' := Option.some.inj (hx.symm.trans hx')
        have hn := hv.len
        refine wpAny_truthy_list ⟨_, (R'.nw _ (bH hc (.head _))).1, rfl, n, rfl⟩ (by simp; lia) ?_
        have : (!ws.toArray.isEmpty) = !l.isEmpty := by
          cases l with
          | nil => have : ws = [] := by simpa using hn
                   subst this; rfl
          | cons a r => cases ws with
            | nil => cases hn
            | cons v vs => rfl
        rw [this]
        exact h _
    · cases e
  · cases e
theorem lP [Tk s.toks] {Q : Bool → Shared → Prop} {E : Value → Shared → Prop} (R : Rl w.params h₀ L s.heap st ρ) {a : AV} {x : Value} {r : Bool} (ha : a.Is ρ x) (e : eS T st.objs a = some r) (h : ∀ tk, Tk tk → Q r { s with toks := tk }) :
    wpAny (model prog w) A (truthy x) Q E s := jp (nH R ha e fun tk t => h tk t)
noncomputable def bY (T : Tabs) (To : TE) : TB := fun st k => To st fun a st' => match eS T st'.objs a with
  | some b => k b st'
  | none => False
theorem eX {e : Expr} {To : TE} (he : SE prog w K d q sc f cd en e To) (hp : ∀ env, isTrue e env (eval e env) = (do let v ← eval e env; standAt e.pos; holding [v] (truthy v))) : SB prog w K d q sc f cd en e (bY T To) := by
  refine ⟨?_⟩
  intro A L h₀ s _tp st ρ k C R H
  refine isTrue_plain (sq (he.run A L h₀ s inferInstance st ρ _ C R H) fun v h' tk _ a st' σ R' i kk => ?_) (hp _)
  cases e' : eS T st'.objs a with
  | none => rw [e'] at kk; exact kk.elim
  | some b => rw [e'] at kk; exact lP R' i e' fun tk' _ => ⟨h', tk', b, st', σ, rfl, R', rfl, kk⟩
noncomputable def dR (T : Tabs) (op : CmpOp) (Tl Tr : TE) : TE := fun st k => Tl st fun a st1 => Tr st1 fun b st2 => match bz T st2.objs op a b with
  | some r => k (.bool r) st2
  | none => False
noncomputable def aq (T : Tabs) (op : CmpOp) (Tl Tr : TE) : TB := fun st k => Tl st fun a st1 => Tr st1 fun b st2 => match bz T st2.objs op a b with
  | some r => k r st2
  | none => False
theorem ll (O : TOk w.params K T) {l r : Expr} {op : CmpOp} {pos : Pos} {Tl Tr : TE} (hl : SE prog w K d q sc f cd en l Tl) (hr : SE prog w K d q sc f cd en r Tr) (hm : behindInMarks op r = false) :
    SE prog w K d q sc f cd en (.Compare l [op] [r] pos) (dR T op Tl Tr) := by
  refine ⟨?_⟩
  intro A L h₀ s _tp st ρ k C R H
  refine wpAny_Compare1 (sq (hl.run A L h₀ s inferInstance st ρ _ C R H) fun v h' tk _ a st1 σ R1 i1 k1 => sq (hr.run A L h₀ _ inferInstance st1 _ _ C R1 k1) fun u h2 tk2 _ b st2 σ2 R2 i2 k2 => ?_) hm
  cases e' : bz T st2.objs op a b with
  | none => rw [e'] at k2; exact k2.elim
  | some r' =>
    rw [e'] at k2
    exact fc O C.glo R2 (by have := C.uni; lia) (AV.Is.grow σ2 i1) i2 e' fun tk' _ => ⟨h2, tk', .bool r', st2, σ ++ σ2, rfl, by rw [← List.append_assoc]; exact R2, rfl, k2⟩
theorem aJ (O : TOk w.params K T) {l r : Expr} {op : CmpOp} {pos : Pos} {Tl Tr : TE} (hl : SE prog w K d q sc f cd en l Tl) (hr : SE prog w K d q sc f cd en r Tr) (hm : behindInMarks op r = false) :
    SB prog w K d q sc f cd en (.Compare l [op] [r] pos) (aq T op Tl Tr) := by
  refine ⟨?_⟩
  intro A L h₀ s _tp st ρ k C R H
  refine wpAny_isTrue_Compare1 (sq (hl.run A L h₀ s inferInstance st ρ _ C R H) fun v h' tk _ a st1 σ R1 i1 k1 => sq (hr.run A L h₀ _ inferInstance st1 _ _ C R1 k1) fun u h2 tk2 _ b st2 σ2 R2 i2 k2 => ?_) hm
  cases e' : bz T st2.objs op a b with
  | none => rw [e'] at k2; exact k2.elim
  | some r' =>
    rw [e'] at k2
    exact fc O C.glo R2 (by have := C.uni; lia) (AV.Is.grow σ2 i1) i2 e' fun tk' _ => wpAny_truthy_bool ⟨h2, tk', r', st2, σ ++ σ2, rfl, by rw [← List.append_assoc]; exact R2, rfl, k2⟩
noncomputable def cD (T : Tabs) (op op' : CmpOp) (Tl Tm Tr : TE) : TB := fun st k => Tl st fun a st1 => Tm st1 fun b st2 => match bz T st2.objs op a b with
  | some true => Tr st2 fun c st3 => match bz T st3.objs op' b c with
    | some r => k r st3
    | none => False
  | some false => k false st2
  | none => False
noncomputable def ju (Tb : TB) : TE := fun st k => Tb st fun b st' => k (.bool b) st'
theorem jv (O : TOk w.params K T) {l m r : Expr} {op op' : CmpOp} {pos : Pos} {Tl Tm Tr : TE} (hl : SE prog w K d q sc f cd en l Tl) (hm : SE prog w K d q sc f cd en m Tm) (hr : SE prog w K d q sc f cd en r Tr) (hmk : lastMarks [op, op'] [m, r] = false) :
    SB prog w K d q sc f cd en (.Compare l [op, op'] [m, r] pos) (cD T op op' Tl Tm Tr) := by
  refine ⟨?_⟩
  intro A L h₀ s _tp st ρ k C R H
  refine isTrue_chain (sq (hl.run A L h₀ s inferInstance st ρ _ C R H) fun v h' tk _ a st1 σ R1 i1 k1 => ?_) hmk
  refine test_link (sq (hm.run A L h₀ _ inferInstance st1 _ _ C R1 k1) fun u h2 tk2 _ b st2 σ2 R2 i2 k2 => ?_)
  cases e' : bz T st2.objs op a b with
  | none => rw [e'] at k2; exact k2.elim
  | some r' =>
    rw [e'] at k2
    refine fc O C.glo R2 (by have := C.uni; lia) (AV.Is.grow σ2 i1) i2 e' fun tk' _ => wpAny_truthy_bool ?_
    cases r' with
    | false => exact ⟨h2, tk', false, st2, σ ++ σ2, rfl, by rw [← List.append_assoc]; exact R2, rfl, k2⟩
    | true =>
      refine test_last (sq (hr.run A L h₀ _ inferInstance st2 _ _ C R2 k2) fun v3 h3 tk3 _ c st3 σ3 R3 i3 k3 => ?_)
      cases e3 : bz T st3.objs op' b c with
      | none => rw [e3] at k3; exact k3.elim
      | some r3 =>
        rw [e3] at k3
        exact fc O C.glo R3 (by have := C.uni; lia) (AV.Is.grow σ3 i2) i3 e3 fun tk4 _ => wpAny_truthy_bool ⟨h3, tk4, r3, st3, σ ++ σ2 ++ σ3, rfl, by rw [← List.append_assoc, ← List.append_assoc]; exact R3, rfl, k3⟩
theorem ie (O : TOk w.params K T) {l m r : Expr} {op op' : CmpOp} {pos : Pos} {Tl Tm Tr : TE} (hl : SE prog w K d q sc f cd en l Tl) (hm : SE prog w K d q sc f cd en m Tm) (hr : SE prog w K d q sc f cd en r Tr) (hmk : lastMarks [op, op'] [m, r] = false) :
    SE prog w K d q sc f cd en (.Compare l [op, op'] [m, r] pos) (ju (cD T op op' Tl Tm Tr)) := by
  refine ⟨?_⟩
  intro A L h₀ s _tp st ρ k C R H
  refine Compare_chain (sq (hl.run A L h₀ s inferInstance st ρ _ C R H) fun v h' tk _ a st1 σ R1 i1 k1 => ?_) hmk
  refine chain_link (sq (hm.run A L h₀ _ inferInstance st1 _ _ C R1 k1) fun u h2 tk2 _ b st2 σ2 R2 i2 k2 => ?_)
  cases e' : bz T st2.objs op a b with
  | none => rw [e'] at k2; exact k2.elim
  | some r' =>
    rw [e'] at k2
    refine fc O C.glo R2 (by have := C.uni; lia) (AV.Is.grow σ2 i1) i2 e' fun tk' _ => wpAny_truthy_bool ?_
    cases r' with
    | false => exact ⟨h2, tk', .bool false, st2, σ ++ σ2, rfl, by rw [← List.append_assoc]; exact R2, rfl, k2⟩
    | true =>
      refine chain_last (sq (hr.run A L h₀ _ inferInstance st2 _ _ C R2 k2) fun v3 h3 tk3 _ c st3 σ3 R3 i3 k3 => ?_)
      cases e3 : bz T st3.objs op' b c with
      | none => rw [e3] at k3; exact k3.elim
      | some r3 =>
        rw [e3] at k3
        exact fc O C.glo R3 (by have := C.uni; lia) (AV.Is.grow σ3 i2) i3 e3 fun tk4 _ => ⟨h3, tk4, .bool r3, st3, σ ++ σ2 ++ σ3, rfl, by rw [← List.append_assoc, ← List.append_assoc]; exact R3, rfl, k3⟩
noncomputable def jw (Tb : TB) : TB := fun st k => Tb st fun b st' => k (!b) st'
theorem qN {e : Expr} {pos : Pos} {Tb : TB} (he : SB prog w K d q sc f cd en e Tb) : SB prog w K d q sc f cd en (.UnaryOp .Not e pos) (jw Tb) := by
  refine ⟨?_⟩
  intro A L h₀ s _tp st ρ k C R H
  exact isTrue_not (sq (he.run A L h₀ s inferInstance st ρ _ C R H) fun c h' tk _ b st' σ R' i kk => by obtain rfl : b = c := i; exact ⟨h', tk, !b, st', σ, rfl, R', rfl, kk⟩)
noncomputable def du (Tb Tr : TB) : TB := fun st k => Tb st fun b st' => bif b then Tr st' k else k false st'
noncomputable def aOr (Tb Tr : TB) : TB := fun st k => Tb st fun b st' => bif b then k true st' else Tr st' k
noncomputable def aB (b : Bool) : TB := fun st k => k b st
noncomputable abbrev SBw (prog : Program) (w : World) (K : Frag) (d : Nat) (q : Str) (sc : Scope) (f : Addr) (cd : Value) (en : Addr → Env) (e : Expr) (T : TB) : Prop := ∀ whole : Env → Sem Value, Sd prog w K d q sc f cd en pj (fun env => isTrue e env (whole env)) T
theorem lQ {pos : Pos} : SBw prog w K d q sc f cd en (.BoolOp .And [] pos) (aB true) := by
  intro wh
  refine ⟨?_⟩
  intro A L h₀ s _tp st ρ k C R H
  exact isTrue_and_nil (fin (b := true) R rfl H)
theorem nI {pos : Pos} : SBw prog w K d q sc f cd en (.BoolOp .Or [] pos) (aB false) := by
  intro wh
  refine ⟨?_⟩
  intro A L h₀ s _tp st ρ k C R H
  exact isTrue_or_nil (fin (b := false) R rfl H)
theorem fT {e : Expr} {r : List Expr} {pos : Pos} {Tb Tr : TB} (he : SB prog w K d q sc f cd en e Tb) (hr : SBw prog w K d q sc f cd en (.BoolOp .And r pos) Tr) : SBw prog w K d q sc f cd en (.BoolOp .And (e :: r) pos) (du Tb Tr) := by
  intro wh
  refine ⟨?_⟩
  intro A L h₀ s _tp st ρ k C R H
  refine isTrue_and (sq (he.run A L h₀ s inferInstance st ρ _ C R H) fun c h' tk _ b st' σ R' i kk => ?_)
  obtain rfl : b = c := i
  cases b with
  | true => exact go ((hr wh).run A L h₀ _ inferInstance st' _ k C R' kk)
  | false => exact ⟨h', tk, false, st', σ, rfl, R', rfl, kk⟩
theorem gG {e : Expr} {r : List Expr} {pos : Pos} {Tb Tr : TB} (he : SB prog w K d q sc f cd en e Tb) (hr : SBw prog w K d q sc f cd en (.BoolOp .Or r pos) Tr) : SBw prog w K d q sc f cd en (.BoolOp .Or (e :: r) pos) (aOr Tb Tr) := by
  intro wh
  refine ⟨?_⟩
  intro A L h₀ s _tp st ρ k C R H
  refine isTrue_or (sq (he.run A L h₀ s inferInstance st ρ _ C R H) fun c h' tk _ b st' σ R' i kk => ?_)
  obtain rfl : b = c := i
  cases b with
  | true => exact ⟨h', tk, true, st', σ, rfl, R', rfl, kk⟩
  | false => exact go ((hr wh).run A L h₀ _ inferInstance st' _ k C R' kk)
theorem SBw.toB {e : Expr} {Tb : TB} (h : SBw prog w K d q sc f cd en e Tb) : SB prog w K d q sc f cd en e Tb := h fun env => eval e env
noncomputable def iR (T : Tabs) (Tl Tr : TE) : TE := fun st k => Tl st fun a st' => match eS T st'.objs a with
  | some b => bif b then k a st' else Tr st' k
  | none => False
theorem rz {e : Expr} {pos : Pos} {Te : TE} (he : SE prog w K d q sc f cd en e Te) : SE prog w K d q sc f cd en (.BoolOp .Or [e] pos) Te := ⟨he.run⟩
theorem mL {e e2 : Expr} {r : List Expr} {pos : Pos} {Tl Tr : TE} (he : SE prog w K d q sc f cd en e Tl) (hr : SE prog w K d q sc f cd en (.BoolOp .Or (e2 :: r) pos) Tr) : SE prog w K d q sc f cd en (.BoolOp .Or (e :: e2 :: r) pos) (iR T Tl Tr) := by
  refine ⟨?_⟩
  intro A L h₀ s _tp st ρ k C R H
  refine BoolOp_or (sq (he.run A L h₀ s inferInstance st ρ _ C R H) fun v h' tk _ a st' σ R' i kk => ?_)
  cases e' : eS T st'.objs a with
  | none => rw [e'] at kk; exact kk.elim
  | some b =>
    rw [e'] at kk
    refine lP R' i e' fun tk' _ => ?_
    cases b with
    | true => exact ⟨h', tk', a, st', σ, rfl, R', i, kk⟩
    | false => exact go (hr.run A L h₀ { s with heap := h', toks := tk' } inferInstance st' _ k C R' kk)
noncomputable def dw {β : Type} (Tc : TB) (Ta Tb : St → (β → St → Prop) → Prop) : St → (β → St → Prop) → Prop := fun st k => Tc st fun b st' => bif b then Ta st' k else Tb st' k
theorem ig {c a b : Expr} {pos : Pos} {Tc : TB} {Ta Tb : TE} (hc : SB prog w K d q sc f cd en c Tc) (ha : SE prog w K d q sc f cd en a Ta) (hb : SE prog w K d q sc f cd en b Tb) : SE prog w K d q sc f cd en (.IfExp c a b pos) (dw Tc Ta Tb) := by
  refine ⟨?_⟩
  intro A L h₀ s _tp st ρ k C R H
  refine IfExp_ (sq (hc.run A L h₀ s inferInstance st ρ _ C R H) fun c h' tk _ b st' σ R' i kk => ?_)
  obtain rfl : b = c := i
  cases b with
  | true => exact go (ha.run A L h₀ _ inferInstance st' _ k C R' kk)
  | false => exact go (hb.run A L h₀ _ inferInstance st' _ k C R' kk)
noncomputable def iS (op : Operator) : AV → AV → Option AV
  | .int a, .int b => match op with
    | .Add => some (.int (a + b))
    | .Sub => some (.int (a - b))
    | .Mod => bif b != 0 then some (.int (a.fmod b)) else none
    | _ => none
  | .str a, .str b => match op with
    | .Add => bif Nat.ble (a.length + b.length) 1000000 then some (.str (a ++ b)) else none
    | _ => none
  | _, _ => none
theorem pw {Q : Value → Shared → Prop} {E : Value → Shared → Prop} {op : Operator} {a b r : AV} {x y : Value} (ha : a.Is ρ x) (hb : b.Is ρ y) (e : iS op a b = some r) (h : ∀ v tk, r.Is ρ v → Q v { s with toks := tk }) :
    wpAny (model prog w) A (binaryOp op x y) Q E s := by
  unfold iS at e
  split at e
  · obtain ⟨t, rfl⟩ := ha; obtain ⟨u, rfl⟩ := hb
    split at e
    · cases e; exact PySem.P.add_int (h _ _ ⟨_, rfl⟩)
    · cases e; exact PySem.P.sub_int (h _ _ ⟨_, rfl⟩)
    · rename_i b _
      cases q : (b != 0) with
      | false => rw [q] at e; cases e
      | true => rw [q] at e; cases e; exact mod_int' (by simpa using q) (h _ _ ⟨_, rfl⟩)
    · cases e
  · rename_i a b
    obtain ⟨t, rfl⟩ := ha; obtain ⟨u, rfl⟩ := hb
    split at e
    · cases q : Nat.ble (a.length + b.length) 1000000 with
      | false => rw [q] at e; cases e
      | true =>
        rw [q] at e
        cases e
        have hl := Nat.le_of_ble_eq_true q
        exact SB.add (fun t' k => h _ _ ⟨t', by rw [ia]⟩) (by rw [a9, a9]; exact Nat.le_trans hl (by decide))
    · cases e
  · cases e
noncomputable def gt (op : Operator) : AV → AV → Option AV
  | .int a, .int b => match op with
    | .Add => some (.int (a + b))
    | .Sub => some (.int (a - b))
    | _ => none
  | .str a, .str b => match op with
    | .Add => bif Nat.ble (a.length + b.length) 1000000 then some (.str (a ++ b)) else none
    | _ => none
  | _, _ => none
theorem jx {Q : Value → Shared → Prop} {E : Value → Shared → Prop} {op : Operator} {a b r : AV} {x y : Value} (ha : a.Is ρ x) (hb : b.Is ρ y) (e : gt op a b = some r) (h : ∀ v tk, r.Is ρ v → Q v { s with toks := tk }) :
    wpAny (model prog w) A (inplaceOp op x y) Q E s := by
  unfold gt at e
  split at e
  · obtain ⟨t, rfl⟩ := ha; obtain ⟨u, rfl⟩ := hb
    split at e
    · cases e; exact PySem.P.iadd_int (h _ _ ⟨_, rfl⟩)
    · cases e; exact PySem.P.isub_int (h _ _ ⟨_, rfl⟩)
    · cases e
  · rename_i a b
    obtain ⟨t, rfl⟩ := ha; obtain ⟨u, rfl⟩ := hb
    split at e
    · cases q : Nat.ble (a.length + b.length) 1000000 with
      | false => rw [q] at e; cases e
      | true =>
        rw [q] at e
        cases e
        have hl := Nat.le_of_ble_eq_true q
        exact SB.iadd (fun t' k => h _ _ ⟨t', by rw [ia]⟩) (by rw [a9, a9]; exact Nat.le_trans hl (by decide))
    · cases e
  · cases e
noncomputable def cA (op : Operator) (Tl Tr : TE) : TE := fun st k => Tl st fun a st1 => Tr st1 fun b st2 => match iS op a b with
  | some r => k r st2
  | none => False
theorem ek {l r : Expr} {op : Operator} {pos : Pos} {Tl Tr : TE} (hl : SE prog w K d q sc f cd en l Tl) (hr : SE prog w K d q sc f cd en r Tr) : SE prog w K d q sc f cd en (.BinOp l op r pos) (cA op Tl Tr) := by
  refine ⟨?_⟩
  intro A L h₀ s _tp st ρ k C R H
  refine wpAny_BinOp (sq (hl.run A L h₀ s inferInstance st ρ _ C R H) fun v h' tk _ a st1 σ R1 i1 k1 => sq (hr.run A L h₀ _ inferInstance st1 _ _ C R1 k1) fun u h2 tk2 _ b st2 σ2 R2 i2 k2 => ?_)
  cases e' : iS op a b with
  | none => rw [e'] at k2; exact k2.elim
  | some r' =>
    rw [e'] at k2
    exact pw (AV.Is.grow σ2 i1) i2 e' fun v' tk' hv => ⟨h2, tk', r', st2, σ ++ σ2, rfl, by rw [← List.append_assoc]; exact R2, by rw [← List.append_assoc]; exact hv, k2⟩
noncomputable def c8 (n : Nat) (op : Operator) (Tv : TE) : TS := fun st k => aa n st fun a st1 => Tv st1 fun b st2 => match gt op a b with
  | some r => k .next { st2 with loc := put n r st2.loc }
  | none => False
theorem fU {x : Str} {n : Nat} {op : Operator} {e : Expr} {xp pos : Pos} {Tv : TE} (hn : nm n = x) (hl : sc.names.lookup x = some .local) (he : SE prog w K d q sc f cd (fl q sc f cd) e Tv) : S1 prog w K d q sc f cd (fl q sc f cd) (.AugAssign (.Name x xp) op e pos) (c8 n op Tv) := by
  refine ⟨?_⟩
  intro A L h₀ s _tp st ρ k C R H
  refine wpAny_AugAssign_Name ?_
  unfold c8 aa at H
  obtain ⟨m, cs, R'⟩ := R
  cases e0 : ag n st.loc with
  | none => rw [e0] at H; exact H.elim
  | some a =>
    rw [e0] at H
    obtain ⟨v, hv, ha⟩ := R'.lo n a e0
    rw [hn] at hv
    refine wpAny_loadName_local C.kind hl R'.fr.ns hv ?_
    refine sq (he.run A L h₀ s inferInstance st ρ _ C ⟨m, cs, R'⟩ H) fun u h2 tk2 _ b st2 σ2 R2 i2 k2 => ?_
    cases e' : gt op a b with
    | none => rw [e'] at k2; exact k2.elim
    | some r' =>
      rw [e'] at k2
      exact jx (AV.Is.grow σ2 ha) i2 e' fun v' tk' hv => wpAny_mono (lJ (s := { s with heap := h2, toks := tk' }) C R2 hn hl hv k2) (fun _ _ p => p.up) fun _ _ x => x
noncomputable def d4 (n : Nat) (op : Operator) (To Tv : TE) : TS := fun st k => To st fun o st1 => match cP n st1.objs o with
  | some a => Tv st1 fun b st2 => match gt op a b with
    | some r => match eM n r st2.objs o with
      | some os => k .next { st2 with objs := os }
      | none => False
    | none => False
  | none => False
theorem ij (O : KOk K) {o e : Expr} {x : Str} {n : Nat} {op : Operator} {xp pos : Pos} {To Tv : TE} (hn : nm n = x) (ho : SE prog w K d q sc f cd en o To) (he : SE prog w K d q sc f cd en e Tv) : S1 prog w K d q sc f cd en (.AugAssign (.Attribute o x xp) op e pos) (d4 n op To Tv) := by
  refine ⟨?_⟩
  intro A L h₀ s _tp st ρ k C R H
  subst hn
  refine wpAny_AugAssign_AttributeAny (sq (ho.run A L h₀ s inferInstance st ρ _ C R H) fun v h' tk _ oa st1 σ R1 i1 k1 => ?_)
  cases e1 : cP n st1.objs oa with
  | none => rw [e1] at k1; exact k1.elim
  | some a =>
    rw [e1] at k1
    refine sq (rt (s := { s with heap := h', toks := tk }) (k := fun a' st' => a' = a ∧ st' = st1) O C R1 i1 e1 ⟨rfl, rfl⟩) fun u h2 tk2 _ a' st' σ2 R2 i2 k2 => ?_
    obtain ⟨rfl, rfl⟩ := k2
    refine sq (he.run A L h₀ _ inferInstance _ _ _ C R2 k1) fun v3 h3 tk3 _ b st3 σ3 R3 i3 k3 => ?_
    cases e2 : gt op a' b with
    | none => rw [e2] at k3; exact k3.elim
    | some r' =>
      rw [e2] at k3; dsimp only at k3
      refine jx (AV.Is.grow σ3 i2) i3 e2 fun v4 tk4 hv => ?_
      cases e4 : eM n r' st3.objs oa with
      | none => rw [e4] at k3; exact k3.elim
      | some os =>
        rw [e4] at k3
        exact wpAny_mono (qI (s := { s with heap := h3, toks := tk4 }) O (r' := AF.next) C R3 (AV.Is.grow σ3 (AV.Is.grow σ2 i1)) hv e4 rfl k3) (fun _ _ p => p.up.up.up) fun _ _ x => x
noncomputable def aK (Te : TE) : TS := fun st k => Te st fun _ st' => k .next st'
theorem bj {e : Expr} {pos : Pos} {Te : TE} (he : SE prog w K d q sc f cd (fl q sc f cd) e Te) (hs : ∀ env, swapsWith e none pos.line env = pure false) : S1 prog w K d q sc f cd (fl q sc f cd) (.Expr e pos) (aK Te) := by
  refine ⟨?_⟩
  intro A L h₀ s _tp st ρ k C R H
  exact wpAny_Expr_any (sq (he.run A L h₀ s inferInstance st ρ _ C R H) fun v h' tk _ b st' σ R' i kk => ⟨h', tk, .next, st', σ, rfl, R', rfl, kk⟩) (by show (sc.kind == .module && _) = false; rw [C.kind]; rfl) (hs _)
noncomputable def jy (Tb : TB) : TS := fun st k => Tb st fun b st' => b = true ∧ k .next st'
theorem pz {e : Expr} {m : Option Expr} {pos : Pos} {Tb : TB} (he : SB prog w K d q sc f cd en e Tb) : S1 prog w K d q sc f cd en (.Assert e m pos) (jy Tb) := by
  refine ⟨?_⟩
  intro A L h₀ s _tp st ρ k C R H
  refine wpAny_Assert_holds (sq (he.run A L h₀ s inferInstance st ρ _ C R H) fun v h' tk _ b st' σ R' i kk => ?_)
  obtain rfl : b = v := i
  exact ⟨kk.1, h', tk, .next, st', σ, rfl, R', rfl, kk.2⟩
end
noncomputable def KVs (ρ : List Addr) : List (Nat × AV) → List (Str × Value) → Prop
  | [], kvs => kvs = []
  | p :: r, kvs => ∃ v kvs', kvs = (nm p.1, v) :: kvs' ∧ p.2.Is ρ v ∧ KVs ρ r kvs'
noncomputable def free : List (Nat × AV) → Bool
  | [] => true
  | p :: r => (ag p.1 r).isNone && free r
theorem KVs.noKey {ρ : List Addr} {n : Nat} : ∀ {fs : List (Nat × AV)} {kvs : List (Str × Value)}, KVs ρ fs kvs → ag n fs = none → ∀ kv ∈ kvs, kv.1 ≠ nm n
  | [], _, h, _ => by obtain rfl := h; intro kv hk; cases hk
  | p :: r, _, ⟨v, kvs', e, _, h⟩, hl => by
    subst e
    unfold ag at hl
    cases q : Nat.beq p.1 n with
    | true => rw [q] at hl; cases hl
    | false =>
      rw [q] at hl
      intro kv hk
      rcases List.mem_cons.mp hk with rfl | hk
      · intro e
        have := g9 e
        rw [this] at q; simp at q
      · exact h.noKey hl kv hk
theorem KVs.nodup {ρ : List Addr} : ∀ {fs : List (Nat × AV)} {kvs : List (Str × Value)}, KVs ρ fs kvs → free fs = true → (kvs.map (·.1)).Nodup
  | [], _, h, _ => by obtain rfl := h; exact List.nodup_nil
  | p :: r, _, ⟨v, kvs', e, _, h⟩, hf => by
    subst e
    obtain ⟨f1, f2⟩ := Bool.and_eq_true_iff.mp hf
    rw [List.map_cons, List.nodup_cons]
    refine ⟨fun hm => ?_, h.nodup f2⟩
    obtain ⟨kv, hk, e⟩ := List.mem_map.mp hm
    exact h.noKey (by simpa using f1) kv hk e
theorem KVs.at {ρ : List Addr} {n : Nat} : ∀ {fs : List (Nat × AV)} {kvs : List (Str × Value)}, KVs ρ fs kvs → match ag n fs with
    | some a => ∃ v, valueAt kvs (nm n) = some v ∧ a.Is ρ v
    | none => valueAt kvs (nm n) = none
  | [], _, h => by obtain rfl := h; rfl
  | p :: r, _, ⟨v, kvs', e, hv, h⟩ => by
    subst e
    have ih := h.at (n := n)
    unfold ag valueAt
    rw [List.find?_cons]
    have hk : decide (nm p.1 = nm n) = Nat.beq p.1 n := by rw [← eh]; rfl
    dsimp only
    rw [hk]
    cases q : Nat.beq p.1 n with
    | true => exact ⟨v, rfl, hv⟩
    | false => exact ih
theorem KVs.miss {ρ : List Addr} {n : Nat} {fs : List (Nat × AV)} {kvs : List (Str × Value)} (h : KVs ρ fs kvs) (hl : ag n fs = none) : kvs.any (fun kv => kv.1 = nm n) = false := by
  rw [List.any_eq_false]
  intro kv hk
  simpa using h.noKey hl kv hk
theorem KVs.same {ρ : List Addr} {n : Nat} {v : Value} : ∀ {fs : List (Nat × AV)} {kvs : List (Str × Value)}, KVs ρ fs kvs → ag n fs = none → kvs.map (fun kv => if kv.1 = nm n then (kv.1, v) else kv) = kvs := by
  intro fs kvs h hl
  have := h.noKey hl
  rw [List.map_congr_left (g := id)]
  · simp
  · intro kv hk; rw [if_neg (this kv hk)]; rfl
theorem KVs.grow {ρ : List Addr} (σ : List Addr) : ∀ {fs : List (Nat × AV)} {kvs : List (Str × Value)}, KVs ρ fs kvs → KVs (ρ ++ σ) fs kvs
  | [], _, h => h
  | _ :: _, _, ⟨v, kvs', e, hv, h⟩ => ⟨v, kvs', e, hv.grow σ, h.grow σ⟩
theorem KVs.map_put {ρ : List Addr} {n : Nat} {a : AV} {v : Value} (hv : a.Is ρ v) : ∀ {fs : List (Nat × AV)} {kvs : List (Str × Value)}, KVs ρ fs kvs → free fs = true → (ag n fs).isSome = true →
    KVs ρ (put n a fs) (kvs.map fun kv => if kv.1 = nm n then (kv.1, v) else kv)
  | [], _, _, _, hs => by cases hs
  | p :: r, _, ⟨u, kvs', e, hu, h⟩, hf, hs => by
    subst e
    obtain ⟨f1, f2⟩ := Bool.and_eq_true_iff.mp hf
    unfold ag at hs
    unfold put
    rw [List.map_cons]
    cases q : Nat.beq p.1 n with
    | true =>
      have e := Nat.eq_of_beq_eq_true q
      have hm := h.same (n := n) (v := v) (by rw [← e]; simpa using f1)
      dsimp only
      rw [hm, if_pos (by rw [e])]
      exact ⟨v, kvs', by rw [e], hv, h⟩
    | false =>
      rw [q] at hs
      dsimp only
      rw [if_neg (fun e => by rw [g9 e] at q; simp at q)]
      exact ⟨u, _, rfl, hu, h.map_put hv f2 hs⟩
theorem KVs.app {ρ : List Addr} {n : Nat} {a : AV} {v : Value} (hv : a.Is ρ v) : ∀ {fs : List (Nat × AV)} {kvs : List (Str × Value)}, KVs ρ fs kvs → ag n fs = none → KVs ρ (put n a fs) (kvs ++ [(nm n, v)])
  | [], _, h, _ => by obtain rfl := h; exact ⟨v, [], rfl, hv, rfl⟩
  | p :: r, _, ⟨u, kvs', e, hu, h⟩, hl => by
    subst e
    unfold ag at hl
    unfold put
    cases q : Nat.beq p.1 n with
    | true => rw [q] at hl; cases hl
    | false => rw [q] at hl; exact ⟨u, _, rfl, hu, h.app hv hl⟩
theorem KVs.stored {ρ : List Addr} {n : Nat} {a : AV} {v : Value} {fs : List (Nat × AV)} {kvs : List (Str × Value)} (h : KVs ρ fs kvs) (hf : free fs = true) (hv : a.Is ρ v) : KVs ρ (put n a fs) (PySem.stored kvs (nm n) v) := by
  unfold PySem.stored
  cases e : ag n fs with
  | none => rw [h.miss e]; exact h.app hv e
  | some b =>
    have h1 := h.at (n := n)
    rw [e] at h1
    obtain ⟨u, hu, _⟩ := h1
    have : kvs.any (fun kv => kv.1 = nm n) = true := by
      unfold valueAt at hu
      cases q : kvs.find? (fun kv => kv.1 = nm n) with
      | none => rw [q] at hu; cases hu
      | some kv => exact List.any_eq_true.mpr ⟨kv, List.mem_of_find?_eq_some q, by simpa using List.find?_some q⟩
    rw [this]
    exact h.map_put hv hf (by rw [e]; rfl)
section
variable {prog : Program} {w : World} {K : Frag} {d : Nat} {q : Str} {sc : Scope} {f : Addr} {cd : Value} {en : Addr → Env}
variable {A : Around} {L : Addr} {h₀ : Heap} {s : Shared} {st : St} {ρ : List Addr} {T : Tabs}
theorem Ents.kvs : ∀ {fs : List (Nat × AV)} {es : List DictEntry}, Ents w.params ρ fs es → ∃ kvs, Pairs (strKind prog w) es kvs ∧ KVs ρ fs kvs ∧ ∀ e ∈ es, ∃ k, (strKind prog w).is k e.key = true ∧ e.hash = (strKind prog w).hash k
  | [], _, h => by obtain rfl := h; exact ⟨[], .nil, rfl, fun e he => (List.not_mem_nil he).elim⟩
  | p :: r, _, ⟨t, v, es', e, hv, h⟩ => by
    subst e
    obtain ⟨kvs, h1, h2, h3⟩ := h.kvs
    refine ⟨(nm p.1, v) :: kvs, .cons (strKind_is prog w (nm p.1) t) rfl h1, ⟨v, kvs, rfl, hv, h2⟩, fun e he => ?_⟩
    rcases List.mem_cons.mp he with rfl | he
    · exact ⟨nm p.1, strKind_is prog w (nm p.1) t, rfl⟩
    · exact h3 e he
theorem Ents.of_pairs : ∀ {fs : List (Nat × AV)} {es : List DictEntry} {kvs : List (Str × Value)}, Pairs (strKind prog w) es kvs → KVs ρ fs kvs → (∀ e ∈ es, ∃ k, (strKind prog w).is k e.key = true ∧ e.hash = (strKind prog w).hash k) → Ents w.params ρ fs es
  | [], _, _, hp, hk, _ => by obtain rfl := hk; cases hp; rfl
  | p :: r, _, _, hp, ⟨v, kvs', e, hv, hk⟩, hs => by
    subst e
    cases hp with
    | @cons e kv es kvs h1 h2 h3 =>
      obtain ⟨t, ht⟩ := Value.isStrOf_shape h1
      obtain ⟨k, k1, k2⟩ := hs e (.head _)
      have : k = nm p.1 := (strKind prog w).inj e.key k (nm p.1) k1 h1
      subst this
      refine ⟨t, v, es, ?_, hv, Ents.of_pairs h3 hk fun e he => hs e (.tail _ he)⟩
      cases e with
      | mk hash key val => dsimp only at ht k2 h2; subst ht k2 h2; rfl
theorem pA {h : Heap} {x : Addr} {fs : List (Nat × AV)} {es : List DictEntry} {n : Nat} (he : Ents w.params ρ fs es) (hx : h.get? x = some (dictOf es n)) (hf : free fs = true) : ∃ kvs, h.DictOf (strKind prog w) x kvs ∧ KVs ρ fs kvs ∧ kvs.length = fs.length := by
  obtain ⟨kvs, h1, h2, h3⟩ := Ents.kvs (prog := prog) he
  refine ⟨kvs, ⟨_, es.toArray, n, hx, ⟨rfl, rfl, rfl⟩, rfl, fun e he => h3 e (by simpa using he), h1, h2.nodup hf⟩, h2, ?_⟩
  rw [← h1.length, he.len]
theorem lR {h : Heap} {x : Addr} {fs : List (Nat × AV)} {kvs : List (Str × Value)} (hd : h.DictOf (strKind prog w) x kvs) (hk : KVs ρ fs kvs) : ∃ es n, h.get? x = some (dictOf es n) ∧ Ents w.params ρ fs es := by
  obtain ⟨o, es, ep, ho, hE, hd, hK, hP, _⟩ := hd
  refine ⟨es.toList, ep, ?_, Ents.of_pairs hP hk fun e he => hK e (by simpa using he)⟩
  obtain ⟨c, dd, data, sl⟩ := o
  obtain ⟨e1, e2, e3⟩ := hE
  dsimp only at e1 e2 e3 hd
  subst e1 e2 e3 hd
  exact ho
theorem Rel.upd {h h' : Heap} {m : Str → Option Value} {cs : List (List (Addr × Obj))} {i : Nat} {x : Addr} {o o' : Obj} {ao : AO} (R : Rel w.params h₀ L h st ρ m cs) (hc : cs[i]? = some [(x, o)]) (hx : ρ[i]? = some x)
    (hs : Heap.SameBut x h h') (ho : h'.get? x = some o') (hC : ao.Cells w.params ρ x [(x, o')]) : Rel w.params h₀ L h' { st with objs := st.objs.set i ao } ρ m (cs.set i [(x, o')]) := by
  have e1 := e8 hc
  have e2 := dZ [(x, o')] hc
  have nd := R.nd
  have N := R.nw
  rw [e1] at nd N
  simp only [List.append_assoc, List.singleton_append] at nd N e2
  have nd' := nd
  rw [List.map_append, List.map_cons, List.nodup_append, List.nodup_cons] at nd'
  obtain ⟨n1, ⟨n2, n3⟩, n4⟩ := nd'
  have a : ∀ p ∈ (cs.take i).flatten, p.1 ≠ x := fun p hp e => n4 p.1 (List.mem_map.mpr ⟨p, hp, rfl⟩) x (.head _) e
  have b : ∀ p ∈ (cs.drop (i + 1)).flatten, p.1 ≠ x := fun p hp e => n2 (List.mem_map.mpr ⟨p, hp, e⟩)
  have z := N (x, o) (List.mem_append.mpr (.inr (.head _)))
  refine ⟨R.fr.change hs z.2.1 z.2.2, ?_, ?_, R.ob.put hx hC, R.lo⟩
  · rw [e2]; exact news_set N a b hs ho
  · rw [e2]; simpa using nd
noncomputable def bq (Ts : List TE) : TE := fun st k => aX Ts st fun avs st1 => bif Nat.ble avs.length 1000 then k (.obj st1.objs.length) { st1 with objs := st1.objs ++ [.tup avs] } else False
theorem dy {es : List Expr} {n : Nat} {pos : Pos} {Ts : List TE} (hp : eN es) (ha : AllE prog w K d q sc f cd en es Ts) : SE prog w K d q sc f cd en (.Tuple es n pos) (bq Ts) := by
  refine ⟨?_⟩
  intro A L h₀ s _tp st ρ k C R H
  refine Tuple_ ?_
  rw [hp, cZ]
  refine sq ((gA ha).run A L h₀ s inferInstance st ρ _ C R H) fun vs h' tk _ avs st1 σ R1 i kk => ?_
  cases e : Nat.ble avs.length 1000 with
  | false => rw [e] at kk; exact kk.elim
  | true =>
    rw [e] at kk
    have hl := Nat.le_of_ble_eq_true e
    obtain ⟨m, cs, R2⟩ := R1
    refine go (newTuple_N R2.fr R2.nw (fun h2 F2 N2 => fb (ao := .tup avs) (s := { s with heap := h', toks := tk }) rfl R2 F2 N2 (fun p hp => Heap.lt_size (R2.nw p hp).1) ⟨vs, i.grow [h'.objs.size], rfl⟩ kk) ?_)
    rw [i.len]; exact Nat.le_trans hl (by decide)
noncomputable def cx (Ts : List TE) : TE := fun st k => aX Ts st fun avs st1 => bif Nat.ble avs.length 1000 then k (.obj st1.objs.length) { st1 with objs := st1.objs ++ [.list avs] } else False
theorem fE {es : List Expr} {pos : Pos} {Ts : List TE} (hp : eN es) (ha : AllE prog w K d q sc f cd en es Ts) : SE prog w K d q sc f cd en (.List es pos) (cx Ts) := by
  refine ⟨?_⟩
  intro A L h₀ s _tp st ρ k C R H
  refine List_ ?_
  rw [hp, cZ]
  refine sq ((gA ha).run A L h₀ s inferInstance st ρ _ C R H) fun vs h' tk _ avs st1 σ R1 i kk => ?_
  cases e : Nat.ble avs.length 1000 with
  | false => rw [e] at kk; exact kk.elim
  | true =>
    rw [e] at kk
    have hl := Nat.le_of_ble_eq_true e
    obtain ⟨m, cs, R2⟩ := R1
    refine go (newList_N R2.fr R2.nw (fun h2 F2 N2 => fb (ao := .list avs) (s := { s with heap := h', toks := tk }) rfl R2 F2 N2 (fun p hp => Heap.lt_size (R2.nw p hp).1) ⟨vs, 0, i.grow [h'.objs.size], rfl⟩ kk) ?_)
    rw [i.len]; exact Nat.le_trans hl (by decide)
noncomputable def dA : List Nat → List AV → List (Nat × AV) → List (Nat × AV)
  | n :: r, a :: as, fs => dA r as (put n a fs)
  | _, _, fs => fs
noncomputable def eO : List Nat → List AV → List (Nat × AV) → Bool
  | n :: r, a :: as, fs => free fs && eO r as (put n a fs)
  | _, _, _ => true
noncomputable def bh (ks : List Nat) (Ts : List TE) : TE := fun st k => aX Ts { st with objs := st.objs ++ [.dict []] } fun avs st1 => match st1.objs[st.objs.length]? with
  | some (.dict []) => bif eO ks avs [] && Nat.beq ks.length avs.length then k (.obj st.objs.length) { st1 with objs := st1.objs.set st.objs.length (.dict (dA ks avs [])) } else False
  | _ => False
noncomputable def sF (c : Const) : Option Str := match c with
  | .str x => some x
  | _ => none
noncomputable def qO (e : Expr) : Option Str := match e with
  | .Constant c _ _ => sF c
  | _ => none
noncomputable def qP (o : Option Expr) : Option Str := match o with
  | none => none
  | some e => qO e
theorem lS {o : Option Expr} {x : Str} (h : qP o = some x) : ∃ a b, o = some (.Constant (.str x) a b) := by
  cases o with
  | none => cases h
  | some e =>
    have h : qO e = some x := h
    unfold qO at h
    split at h
    · rename_i c n p _
      cases c with
      | str y => cases h; exact ⟨_, _, rfl⟩
      | _ => cases h
    · cases h
noncomputable def fV (keys : List (Option Expr)) (ks : List Nat) : Bool := keys.map qP == ks.map fun n => some (nm n)
theorem fW {o : Option Expr} {r : List (Option Expr)} {ks : List Nat} (h : fV (o :: r) ks = true) : ∃ n ns, ks = n :: ns ∧ qP o = some (nm n) ∧ fV r ns = true := by
  have h := eq_of_beq h
  cases ks with
  | nil => cases h
  | cons n ns =>
    obtain ⟨h1, h2⟩ := List.cons.inj h
    exact ⟨n, ns, rfl, h1, beq_iff_eq.mpr h2⟩
theorem jz {keys : List (Option Expr)} : ∀ {ks : List Nat}, fV keys ks = true → keys.all (·.isSome) = true := by
  induction keys with
  | nil => exact fun _ => rfl
  | cons o r ih =>
    intro ks h
    obtain ⟨n, ns, _, h1, h2⟩ := fW h
    obtain ⟨a, b, rfl⟩ := lS h1
    exact ih h2
noncomputable def KPs (ρ : List Addr) : List Nat → List AV → List (Value × Value) → Prop
  | n :: ns, a :: as, vs => ∃ t v vs', vs = (.str (nm n) t, v) :: vs' ∧ a.Is ρ v ∧ KPs ρ ns as vs'
  | [], [], vs => vs = []
  | _, _, _ => False
theorem KPs.carries : ∀ {ks : List Nat} {as : List AV} {vs : List (Value × Value)}, KPs ρ ks as vs → ∃ kvs, Carries (strKind prog w) vs kvs ∧ ∀ fs kv0, KVs ρ fs kv0 → eO ks as fs = true → KVs ρ (dA ks as fs) (merged kv0 kvs)
  | [], [], _, h => by obtain rfl := h; exact ⟨[], trivial, fun fs kv0 h _ => h⟩
  | n :: ns, a :: as, _, ⟨t, v, vs', e, hv, h⟩ => by
    subst e
    obtain ⟨kvs, h1, h2⟩ := KPs.carries h
    refine ⟨(nm n, v) :: kvs, ⟨strKind_is prog w (nm n) t, rfl, h1⟩, fun fs kv0 hk hf => ?_⟩
    obtain ⟨f1, f2⟩ := Bool.and_eq_true_iff.mp hf
    exact h2 _ _ (hk.stored f1 hv) f2
  | [], _ :: _, _, h => h.elim
  | _ :: _, [], _, h => h.elim
theorem qQ {values : List Expr} {Ts : List TE} (ha : AllE prog w K d q sc f cd en values Ts) (pos : Pos) : ∀ {keys : List (Option Expr)} {ks : List Nat}, fV keys ks = true → keys.length = values.length →
    Sd prog w K d q sc f cd en (fun ρ as vs => KPs ρ ks as vs) (fun env => evalPairs (pairTrees keys values env pos)) (aX Ts) := by
  induction ha with
  | nil =>
    intro keys ks hk hl
    refine ⟨?_⟩
    intro A L h₀ s _tp st ρ k C R H
    obtain rfl : keys = [] := by simpa using hl
    cases ks with
    | cons _ _ => cases hk
    | nil => exact pairTrees_nil_walk (fin (b := ([] : List AV)) R rfl H)
  | cons he _ ih =>
    intro keys ks hk hl
    refine ⟨?_⟩
    intro A L h₀ s _tp st ρ k C R H
    cases keys with
    | nil => cases hl
    | cons o r =>
      obtain ⟨n, ns, rfl, h1, hk2⟩ := fW hk
      obtain ⟨_, _, rfl⟩ := lS h1
      refine pairTrees_cons_walk (wpAny_Constant_str ?_)
      refine sq (he.run A L h₀ { s with toks := s.toks + 1 } inferInstance st ρ _ C R H) fun v h' tk _ a st' σ R' i kk => ?_
      refine sq ((ih hk2 (Nat.succ.inj hl)).run A L h₀ _ inferInstance st' _ _ C R' kk) fun vs h2 tk2 _ as st2 σ2 R2 i2 k2 => ?_
      exact ⟨h2, tk2, a :: as, st2, σ ++ σ2, rfl, by rw [← List.append_assoc]; exact R2, ⟨_, v, vs, rfl, by rw [← List.append_assoc]; exact AV.Is.grow σ2 i, by rw [← List.append_assoc]; exact i2⟩, k2⟩
theorem bZ {keys : List (Option Expr)} {values : List Expr} {pos : Pos} {ks : List Nat} {Ts : List TE} (hk : fV keys ks = true) (hl : keys.length = values.length) (h0 : keys ≠ []) (hlen : keys.length ≤ 15) (ha : AllE prog w K d q sc f cd en values Ts) :
    SE prog w K d q sc f cd en (.Dict keys values pos) (bh ks Ts) := by
  refine ⟨?_⟩
  intro A L h₀ s _tp st ρ k C R H
  obtain ⟨m, cs, R'⟩ := R
  obtain ⟨p, loose, mg, mb, TT⟩ := C.glo.top
  have low := R'.fr.notModules (modules_low TT.nolimit)
  refine Dict_made (knd := strKind prog w) R'.fr (jz hk) hl h0 hlen fun F1 => ?_
  have R1 : Rel w.params h₀ L (s.heap.push { cls := .type "dict", data := .dict #[] }) { st with objs := st.objs ++ [.dict []] } (ρ ++ [s.heap.objs.size]) m (cs ++ [[(s.heap.objs.size, dictOf [] 0)]]) :=
    R'.add1 F1 (News.push R'.fr R'.nw _) (fun p hp => Heap.lt_size (R'.nw p hp).1) ⟨[], 0, rfl, rfl, low⟩
  refine sq ((qQ ha pos hk hl).run A L h₀ { s with heap := s.heap.push { cls := .type "dict", data := .dict #[] } } inferInstance { st with objs := st.objs ++ [.dict []] } _ _ C ⟨m, _, R1⟩ H) fun vs h2 tk2 _ avs st2 σ2 R2 i2 k2 => ?_
  split at k2
  · rename_i hget
    cases e : (eO ks avs [] && Nat.beq ks.length avs.length) with
    | false => rw [e] at k2; exact k2.elim
    | true =>
      rw [e] at k2
      obtain ⟨e1, e2⟩ := Bool.and_eq_true_iff.mp e
      obtain ⟨m2, cs2, R2'⟩ := R2
      obtain ⟨x, c, hx, hc, es, n, hE, rfl, _⟩ := R2'.ob.get hget
      have hxd : x = s.heap.objs.size := by
        have : ((ρ ++ [s.heap.objs.size]) ++ σ2)[st.objs.length]? = some s.heap.objs.size := by
          rw [List.getElem?_append_left (by rw [List.length_append, R'.len]; simp)]; exact ei R'.len
        exact Option.some.inj (hx.symm.trans this)
      subst hxd
      obtain rfl := hE
      have hD : h2.get? s.heap.objs.size = some (dictOf [] n) := (R2'.nw _ (bH hc (.head _))).1
      obtain ⟨kvs, h1, h3⟩ := KPs.carries (prog := prog) (w := w) i2
      refine ⟨kvs, h1, ⟨_, #[], n, hD, ⟨rfl, rfl, rfl⟩, rfl, fun e he => (Array.not_mem_empty _ he).elim, .nil, List.nodup_nil⟩, fun h4 hd4 hs4 => ?_⟩
      obtain ⟨es4, n4, g4, hE4⟩ := lR (prog := prog) hd4 (h3 [] [] rfl e1)
      have R4 := R2'.upd hc hx hs4 g4 (ao := .dict (dA ks avs [])) ⟨es4, n4, hE4, rfl, low⟩
      exact ⟨h4, tk2 + vs.length, .obj st.objs.length, _, [s.heap.objs.size] ++ σ2, rfl, ⟨m2, _, by rw [← List.append_assoc]; exact R4⟩, ⟨_, by rw [← List.append_assoc]; exact hx, rfl⟩, k2⟩
  · exact k2.elim
end
noncomputable def eo (n : Nat) (v : Option Int) (d : Nat) : Nat := match v with
  | none => d
  | some (.ofNat i) => min i n
  | some (.negSucc i) => n - (i + 1)
noncomputable def sl {α : Type} (lo hi : Option Int) (s : List α) : List α := (s.drop (eo s.length lo 0)).take (eo s.length hi s.length - eo s.length lo 0)
theorem gO (n : Nat) (v : Option Int) (d : Nat) (h : d ≤ n) : eo n v d ≤ n := by
  cases v with
  | none => exact h
  | some i => cases i with
    | ofNat i => exact Nat.min_le_right _ _
    | negSucc i => exact Nat.sub_le _ _
theorem ki {α : Type} (x : List α) (a b : Nat) : sl (some (a : Int)) (some (b : Int)) x = (x.take b).drop a := by
  show (x.drop (min a x.length)).take (min b x.length - min a x.length) = _
  rw [← List.drop_take]
  rcases Nat.le_total a x.length with h | h
  · rw [Nat.min_eq_left h]
    rcases Nat.le_total b x.length with h2 | h2
    · rw [Nat.min_eq_left h2]
    · rw [Nat.min_eq_right h2, List.take_of_length_le h2, List.take_of_length_le (Nat.le_refl _)]
  · rw [Nat.min_eq_right h, List.drop_of_length_le (by rw [List.length_take]; exact Nat.min_le_right _ _), List.drop_of_length_le (Nat.le_trans (by rw [List.length_take]; exact Nat.min_le_right _ _) h)]
theorem rA {α : Type} (x : List α) (a : Nat) : sl (some (a : Int)) none x = x.drop a := by
  have h := ki x a x.length
  rw [List.take_of_length_le (Nat.le_refl _)] at h
  rw [← h]
  show _ = (x.drop (min a x.length)).take (min x.length x.length - min a x.length)
  rw [Nat.min_self]; rfl
theorem qR {α : Type} (x : List α) (b : Nat) : sl none (some (b : Int)) x = x.take b := by
  have h := ki x 0 b
  rw [List.drop_zero] at h
  rw [← h]
  show _ = (x.drop (min 0 x.length)).take (min b x.length - min 0 x.length)
  rw [Nat.zero_min]; rfl
theorem pB {α : Type} (x : List α) : sl none (some (-1)) x = x.dropLast := by
  show (x.drop 0).take (x.length - 1 - 0) = _
  rw [List.dropLast_eq_take]; rfl
theorem fX {a b a' b' : Int} (h : a = a') (h2 : b = b' ∨ (b ≤ a ∧ b' ≤ a')) : sliceRange a b 1 = sliceRange a' b' 1 := by
  subst h
  rcases h2 with rfl | ⟨h3, h4⟩
  · rfl
  · unfold sliceRange
    simp only [show (1 : Int) > 0 from by decide, if_true]
    rw [if_neg (by lia), if_neg (by lia)]
theorem fe (n : Nat) (i : Int) (d : Nat) : ((eo n (some i) d : Nat) : Int) = max 0 (min (if i < 0 then i + n else i) n) := by
  cases i with
  | ofNat i =>
    show ((min i n : Nat) : Int) = max 0 (min (if (i : Int) < 0 then _ else (i : Int)) n)
    rw [if_neg (Int.not_lt.mpr (Int.natCast_nonneg i)), Int.max_eq_right (Int.le_min.mpr ⟨Int.natCast_nonneg _, Int.natCast_nonneg _⟩)]
    rcases Nat.le_total i n with h | h
    · rw [Nat.min_eq_left h, Int.min_eq_left (Int.ofNat_le.mpr h)]
    · rw [Nat.min_eq_right h, Int.min_eq_right (Int.ofNat_le.mpr h)]
  | negSucc i =>
    show ((n - (i + 1) : Nat) : Int) = _
    rw [if_pos (Int.negSucc_lt_zero i), Int.min_eq_left (Int.le_trans (Int.add_le_add_right (Int.le_of_lt (Int.negSucc_lt_zero i)) _) (Int.le_of_eq (Int.zero_add _))), Int.negSucc_eq]
    rcases Nat.le_total n (i + 1) with h | h
    · rw [Nat.sub_eq_zero_of_le h, Int.max_eq_left (by lia)]; rfl
    · rw [Int.max_eq_right (by lia)]; lia
theorem fu (lo hi : Option Int) (n : Nat) : Builtin.Str.strSliceIndices lo hi 1 n = sliceRange (eo n lo 0 : Nat) (eo n hi n : Nat) 1 := by
  unfold Builtin.Str.strSliceIndices
  cases lo with
  | none =>
    cases hi with
    | none => rfl
    | some j => exact fX rfl (.inl (by rw [fe]; rfl))
  | some i =>
    cases hi with
    | none => exact fX (by rw [fe]; rfl) (.inl rfl)
    | some j => exact fX (by rw [fe]; rfl) (.inl (by rw [fe]; rfl))
theorem kj {n a d : Nat} (h : a ≤ n) : eo n (some (a : Int)) d = a := Nat.min_eq_left h
theorem jA (lo hi : Option Int) (n : Nat) : Builtin.Str.strSliceIndices lo hi 1 n = Builtin.Str.strSliceIndices (some (eo n lo 0 : Int)) (some ((eo n lo 0 + (eo n hi n - eo n lo 0) : Nat) : Int)) 1 n := by
  have a1 := gO n lo 0 (Nat.zero_le _)
  have b1 := gO n hi n (Nat.le_refl _)
  rw [fu, fu]
  rw [kj a1, kj (a := eo n lo 0 + (eo n hi n - eo n lo 0)) (by lia)]
  exact fX rfl (by lia)
theorem nJ (lo hi : Option Int) (x : List Nat) : Txt.slice (txt x) lo hi = txt (sl lo hi x) := by
  have e : Txt.slice (txt x) lo hi = StrLaws.sliceText (txt x) lo hi := rfl
  have a1 := gO x.length lo 0 (Nat.zero_le _)
  have b1 := gO x.length hi x.length (Nat.le_refl _)
  have e2 : StrLaws.sliceText (txt x) lo hi = StrLaws.sliceText (txt x) (some (eo x.length lo 0 : Int)) (some ((eo x.length lo 0 + (eo x.length hi x.length - eo x.length lo 0) : Nat) : Int)) := by
    unfold StrLaws.sliceText
    rw [a9, jA lo hi]
  rw [e, e2, StrLaws.sliceText_nat (txt x) (Nat.le_add_right _ _) (by rw [a9]; lia)]
  unfold sl txt
  congr 3
  lia
noncomputable def idx : Int → Nat → Option Nat
  | .ofNat i, n => if i < n then some i else none
  | .negSucc i, n => if i < n then some (n - (i + 1)) else none
theorem ff {i n : Nat} (h : i < n) : idx (i : Int) n = some i := if_pos h
theorem kl {n : Nat} (h : 0 < n) : idx (-1) n = some (n - 1) := if_pos h
theorem nK {k : Int} {n j : Nat} (h : idx k n = some j) : seqIndex? k n = some j ∧ j < n ∧ -(n : Int) ≤ k ∧ k < n ∧ ((0 ≤ k ∧ j = k.toNat) ∨ (k < 0 ∧ j = (k + n).toNat)) := by
  cases k with
  | ofNat i =>
    have h : (if i < n then some i else none) = some j := h
    by_cases hi : i < n
    · rw [if_pos hi] at h
      obtain rfl : i = j := Option.some.inj h
      have h0 : (0 : Int) ≤ .ofNat i := Int.natCast_nonneg i
      exact ⟨StrLaws.seqIndex_nonneg h0 (Int.ofNat_lt.mpr hi), hi, Int.le_trans (Int.neg_nonpos_of_nonneg (Int.natCast_nonneg n)) h0, Int.ofNat_lt.mpr hi, .inl ⟨h0, rfl⟩⟩
    · rw [if_neg hi] at h; cases h
  | negSucc i =>
    have h : (if i < n then some (n - (i + 1)) else none) = some j := h
    by_cases hi : i < n
    · rw [if_pos hi] at h
      cases h
      have h0 := Int.negSucc_lt_zero i
      have e := Int.negSucc_eq i
      have e2 : n - (i + 1) = (Int.negSucc i + n).toNat := by rw [e]; lia
      exact ⟨by rw [e2]; exact seqIndex_neg h0 (by rw [e]; lia), by lia, by rw [e]; lia, Int.lt_of_lt_of_le h0 (Int.natCast_nonneg n), .inr ⟨h0, e2⟩⟩
    · rw [if_neg hi] at h; cases h
section
variable {prog : Program} {w : World} {K : Frag} {d : Nat} {q : Str} {sc : Scope} {f : Addr} {cd : Value} {en : Addr → Env}
variable {A : Around} {L : Addr} {h₀ : Heap} {s : Shared} {st : St} {ρ : List Addr} {T : Tabs}
noncomputable def cQ (T : Tabs) (os : List AO) (a b : AV) : Option AV := match b with
  | .int k => match a with
    | .str x => bif Nat.ble x.length 1000000 then (match idx k x.length with
      | some j => match x[j]? with
        | some c => some (.str [c])
        | none => none
      | none => none) else none
    | a => match bt T os a with
      | some (_, l) => bif Nat.ble l.length 1000000 then (match idx k l.length with
        | some j => l[j]?
        | none => none) else none
      | none => none
  | .str x => match a with
    | .glob (.ref g) => match i0 g T.dicts with
      | some fs => dj x fs
      | none => none
    | _ => none
  | _ => none
noncomputable abbrev km (slice : Expr) : Prop := ∀ o i, subscripted slice false o i = operate [o, i] (getItem o i)
theorem Vals.get {l : List AV} {ws : List Value} (h : Vals ρ l ws) {j : Nat} {a : AV} (e : l[j]? = some a) : ∃ v, ws[j]? = some v ∧ a.Is ρ v := by
  obtain ⟨hj, rfl⟩ := List.getElem?_eq_some_iff.mp e
  have hj' : j < ws.length := by rw [h.len]; exact hj
  refine ⟨ws[j], List.getElem?_eq_getElem hj', ?_⟩
  have := h.at hj'
  rwa [List.getD_eq_getElem?_getD, List.getElem?_eq_getElem hj] at this
theorem pC (O : TOk w.params K T) {Q : Value → Shared → Prop} {E : Value → Shared → Prop} {value slice : Expr} (hs : km slice) (G : Glo K h₀) (R : Rl w.params h₀ L s.heap st ρ) {a b r : AV} {x y : Value} (ha : a.Is ρ x) (hb : b.Is ρ y)
    (e : cQ T st.objs a b = some r) (h : ∀ v tk, r.Is ρ v → Q v { s with toks := tk }) : wpAny (model prog w) A (subscriptTail value slice x y) Q E s := by
  have seqCase : ∀ k u, y = .int k u → (match bt T st.objs a with
      | some (_, l) => bif Nat.ble l.length 1000000 then (match idx k l.length with
        | some j => l[j]?
        | none => none) else none
      | none => none) = some r → wpAny (model prog w) A (subscriptTail value slice x y) Q E s := by
    intro k u hy e
    subst hy
    split at e
    · rename_i tp l e1
      cases eb : Nat.ble l.length 1000000 with
      | false => rw [eb] at e; cases e
      | true =>
        rw [eb] at e
        simp only [cond_true] at e
        have hl := Nat.le_of_ble_eq_true eb
        split at e
        · rename_i j ej
          obtain ⟨xa, ws, o, rfl, hv, g1, g2, nn, g3⟩ := c7 O G R ha e1
          obtain ⟨i1, i2, i3, i4, i5⟩ := nK ej
          obtain ⟨v, hv1, hv2⟩ := hv.get e
          have n1 := hv.len
          cases tp with
          | true => exact item_tupleT ⟨o, g1, g2, nn, g3⟩ (by lia) (by lia) (by rw [n1]; exact i1) hv1 (h v s.toks hv2) (hs _ _)
          | false =>
            have hL : s.heap.IsList xa ws.toArray := ⟨o, g1, g2, nn, g3⟩
            refine tail_any hL.typeIs slot_list_getitem.lookup ?_ (hs _ _)
            rcases i5 with ⟨z, rfl⟩ | ⟨z, rfl⟩
            · exact wpAny_getItem_list hL z (by lia) (by simpa using hv1) (h v s.toks hv2)
            · exact wpAny_getItem_list_neg hL z (by simp; lia) (by lia) (by simpa [n1] using hv1) (h v s.toks hv2)
        · cases e
    · cases e
  unfold cQ at e
  split at e
  · rename_i k
    obtain ⟨u, rfl⟩ := hb
    split at e
    · rename_i z
      obtain ⟨t, rfl⟩ := ha
      cases eb : Nat.ble z.length 1000000 with
      | false => rw [eb] at e; cases e
      | true =>
        rw [eb] at e
        simp only [cond_true] at e
        have hl := Nat.le_of_ble_eq_true eb
        split at e
        · rename_i j ej
          split at e
          · rename_i c ec
            cases e
            obtain ⟨i1, i2, i3, i4, i5⟩ := nK ej
            have hc : Txt.charAt (txt z) k = some c := by unfold Txt.charAt; rw [a9, i1]; simpa [txt] using ec
            refine tail_any (typeIs_str _ _ _) PySem.F.slot_str_getitem.lookup (SB.getItem (by unfold fitsSsize; simp; lia) (by rw [hc]; rfl) ?_) (hs _ _)
            unfold Txt.item
            rw [hc]
            exact h _ _ ⟨_, rfl⟩
          · cases e
        · cases e
    · exact seqCase k u rfl e
  · rename_i z
    obtain ⟨t, rfl⟩ := hb
    split at e
    · rename_i g
      obtain rfl := ha
      split at e
      · rename_i fs e1
        obtain ⟨es, n, h1, h2, h3⟩ := O.dict _ (gs e1)
        obtain ⟨m, cs, R'⟩ := R
        have hm := mapOf_K (prog := prog) (w := w) (G.kin.keeps R'.fr.keep) h1 (by simpa using h2.keys)
        have hf := h2.find (x := z)
        rw [e] at hf
        obtain ⟨v, hv, hv2⟩ := hf
        exact tail_any hm.typeIs slot_dict_getitem.lookup (wpAny_getItem_of (strKind_is prog w (txt z) t) hm (by unfold findBy; rw [List.find?_toArray]; exact hv) (h v _ (Is.nil hv2))) (hs _ _)
      · cases e
    · cases e
  · cases e
noncomputable def aU (T : Tabs) (To Ti : TE) : TE := fun st k => To st fun a st1 => Ti st1 fun b st2 => match cQ T st2.objs a b with
  | some r => k r st2
  | none => False
theorem bV (O : TOk w.params K T) {v i : Expr} {pos : Pos} {To Ti : TE} (hv : SE prog w K d q sc f cd en v To) (hi : SE prog w K d q sc f cd en i Ti) (hs : km i) : SE prog w K d q sc f cd en (.Subscript v i pos) (aU T To Ti) := by
  refine ⟨?_⟩
  intro A L h₀ s _tp st ρ k C R H
  refine Subscript_ (sq (hv.run A L h₀ s inferInstance st ρ _ C R H) fun v h' tk _ a st1 σ R1 i1 k1 => sq (hi.run A L h₀ _ inferInstance st1 _ _ C R1 k1) fun u h2 tk2 _ b st2 σ2 R2 i2 k2 => ?_)
  cases e' : cQ T st2.objs a b with
  | none => rw [e'] at k2; exact k2.elim
  | some r' =>
    rw [e'] at k2
    exact pC O hs C.glo R2 (AV.Is.grow σ2 i1) i2 e' fun v' tk' hv' => ⟨h2, tk', r', st2, σ ++ σ2, rfl, by rw [← List.append_assoc]; exact R2, by rw [← List.append_assoc]; exact hv', k2⟩
noncomputable def dI (n : Nat) (os : List AO) : AV → Option AV
  | .obj i => match os[i]? with
    | some (.dict fs) => bif free fs then ag n fs else none
    | _ => none
  | _ => none
theorem Rl.dict {h : Heap} (R : Rl w.params h₀ L h st ρ) {i : Nat} {x : Addr} {fs : List (Nat × AV)} (hi : st.objs[i]? = some (.dict fs)) (hx : ρ[i]? = some x) (hf : free fs = true) : (∃ kvs, h.DictOf (strKind prog w) x kvs ∧ KVs ρ fs kvs ∧ kvs.length = fs.length) ∧ (x == sysModules) = false := by
  obtain ⟨m, cs, R'⟩ := R
  obtain ⟨x', c, hx', hc, es, n, hE, rfl, low⟩ := R'.ob.get hi
  obtain rfl : x = x' := Option.some.inj (hx.symm.trans hx')
  exact ⟨pA hE (R'.nw _ (bH hc (.head _))).1 hf, low⟩
theorem pD {Q : Value → Shared → Prop} {E : Value → Shared → Prop} (R : Rl w.params h₀ L s.heap st ρ) {n : Nat} {t : Tok} {a r : AV} {x : Value} (ha : a.Is ρ x) (e : dI n st.objs a = some r) (h : ∀ v tk, r.Is ρ v → Q v { s with toks := tk }) :
    s.TypeIs x "dict" ∧ wpAny (model prog w) A (getItem x (.str (nm n) t)) Q E s := by
  unfold dI at e
  split at e
  · rename_i i
    split at e
    · rename_i fs hi
      cases ef : free fs with
      | false => rw [ef] at e; cases e
      | true =>
        rw [ef] at e
        simp only [cond_true] at e
        obtain ⟨xa, hx, rfl⟩ := ha
        obtain ⟨⟨kvs, h1, h2, h3⟩, _⟩ := R.dict (prog := prog) hi hx ef
        have ha := h2.at (n := n)
        rw [e] at ha
        obtain ⟨v, hv, hv2⟩ := ha
        exact ⟨h1.mapOf.typeIs, wpAny_getItem_of (strKind_is prog w (nm n) t) h1.mapOf hv (h v _ hv2)⟩
    · cases e
  · cases e
theorem nL [Tk s.toks] {Q : Value → Shared → Prop} {E : Value → Shared → Prop} (R : Rl w.params h₀ L s.heap st ρ) {n : Nat} {t : Tok} {a r : AV} {x : Value} (ha : a.Is ρ x) (e : dI n st.objs a = some r) (h : ∀ v tk, Tk tk → r.Is ρ v → Q v { s with toks := tk }) :
    s.TypeIs x "dict" ∧ wpAny (model prog w) A (getItem x (.str (nm n) t)) Q E s :=
  have g := pD (prog := prog) (A := A) (E := E) (n := n) (t := t) (Q := fun v s' => Tk s'.toks → Q v s') R ha e fun v tk i ht => h v tk ht i
  ⟨g.1, jp g.2⟩
noncomputable def dB (n : Nat) (To : TE) : TE := fun st k => To st fun a st1 => match dI n st1.objs a with
  | some r => k r st1
  | none => False
theorem dS {v : Expr} {x : Str} {n m : Nat} {cp pos : Pos} {To : TE} (hn : nm n = x) (hv : SE prog w K d q sc f cd en v To) : SE prog w K d q sc f cd en (.Subscript v (.Constant (.str x) m cp) pos) (dB n To) := by
  refine ⟨?_⟩
  intro A L h₀ s _tp st ρ k C R H
  subst hn
  refine Subscript_ (sq (hv.run A L h₀ s inferInstance st ρ _ C R H) fun v h' tk _ a st1 σ R1 i1 k1 => wpAny_Constant_str ?_)
  cases e' : dI n st1.objs a with
  | none => rw [e'] at k1; exact k1.elim
  | some r' =>
    rw [e'] at k1
    obtain ⟨t1, t2⟩ := nL (prog := prog) (A := A) (E := No) (s := { s with heap := h', toks := tk + 1 }) (n := n) (t := tk) (Q := Post w h₀ L IsV s ρ k) R1 i1 e' fun v' tk' _ hv' => ⟨h', tk', r', st1, σ, rfl, R1, hv', k1⟩
    exact tail_any t1 slot_dict_getitem.lookup t2 rfl
noncomputable def cR (n : Nat) (v : AV) (os : List AO) : AV → Option (List AO)
  | .obj i => match os[i]? with
    | some (.dict fs) => bif free fs && Nat.ble fs.length 100 then some (os.set i (.dict (put n v fs))) else none
    | _ => none
  | _ => none
theorem i7 {α β : Type} {I : List Addr → β → α → Prop} {rr : α} {r' : β} {k : β → St → Prop} (R : Rl w.params h₀ L s.heap st ρ) {n : Nat} {t : Tok} {a b : AV} {x u : Value} {os : List AO} (ha : a.Is ρ x) (hb : b.Is ρ u) (e : cR n b st.objs a = some os)
    (hr : I ρ r' rr) (hk : k r' { st with objs := os }) : wpAny (model prog w) A (setItem x (.str (nm n) t) u) (fun _ => Post w h₀ L I s ρ k rr) No s := by
  unfold cR at e
  split at e
  · rename_i i
    split at e
    · rename_i fs hi
      cases ef : (free fs && Nat.ble fs.length 100) with
      | false => rw [ef] at e; cases e
      | true =>
        rw [ef] at e
        cases e
        obtain ⟨e1, e2⟩ := Bool.and_eq_true_iff.mp ef
        have hlen := Nat.le_of_ble_eq_true e2
        obtain ⟨xa, hx, rfl⟩ := ha
        obtain ⟨⟨kvs, h1, h2, h3⟩, _⟩ := R.dict (prog := prog) hi hx e1
        obtain ⟨m, cs, R'⟩ := R
        obtain ⟨x', c, hx', hc, es, nn, hE, rfl, low⟩ := R'.ob.get hi
        obtain rfl : xa = x' := Option.some.inj (hx.symm.trans hx')
        refine wpAny_setItem_pairs (strKind_is prog w (nm n) t) h1 (fun h' hd hs => ?_) (by rw [h3]; exact Nat.le_trans hlen (by decide))
        obtain ⟨es', n', g, hE'⟩ := lR (prog := prog) hd (h2.stored e1 hb)
        exact dP ⟨m, _, R'.upd hc hx hs g (ao := .dict (put n b fs)) ⟨es', n', hE', rfl, low⟩⟩ hr hk
    · cases e
  · cases e
noncomputable def dJ (n : Nat) (Tv To : TE) : TS := fun st k => Tv st fun b st1 => To st1 fun a st2 => match cR n b st2.objs a with
  | some os => k .next { st2 with objs := os }
  | none => False
noncomputable def fY (n : Nat) (op : Operator) (To Tv : TE) : TS := fun st k => To st fun o st1 => match dI n st1.objs o with
  | some a => Tv st1 fun b st2 => match gt op a b with
    | some r => match cR n r st2.objs o with
      | some os => k .next { st2 with objs := os }
      | none => False
    | none => False
  | none => False
theorem lT {o e : Expr} {x : Str} {n m : Nat} {op : Operator} {cp xp pos : Pos} {To Tv : TE} (hn : nm n = x) (ho : SE prog w K d q sc f cd en o To) (he : SE prog w K d q sc f cd en e Tv) : S1 prog w K d q sc f cd en (.AugAssign (.Subscript o (.Constant (.str x) m cp) xp) op e pos) (fY n op To Tv) := by
  refine ⟨?_⟩
  intro A L h₀ s _tp st ρ k C R H
  subst hn
  refine wpAny_AugAssign_SubscriptAny (sq (ho.run A L h₀ s inferInstance st ρ _ C R H) fun v h' tk _ oa st1 σ R1 i1 k1 => wpAny_Constant_str ?_)
  cases e1 : dI n st1.objs oa with
  | none => rw [e1] at k1; exact k1.elim
  | some a =>
    rw [e1] at k1
    refine (nL (s := { s with heap := h', toks := tk + 1 }) (n := n) (t := tk) R1 i1 e1 fun u tk2 _ i2 => ?_).2
    refine sq (he.run A L h₀ { s with heap := h', toks := tk2 } inferInstance _ _ _ C R1 k1) fun v3 h3 tk3 _ b st3 σ3 R3 i3 k3 => ?_
    cases e2 : gt op a b with
    | none => rw [e2] at k3; exact k3.elim
    | some r' =>
      rw [e2] at k3; dsimp only at k3
      refine jx (AV.Is.grow σ3 i2) i3 e2 fun v4 tk4 hv => ?_
      cases e4 : cR n r' st3.objs oa with
      | none => rw [e4] at k3; exact k3.elim
      | some os =>
        rw [e4] at k3
        exact wpAny_mono (i7 (s := { s with heap := h3, toks := tk4 }) (I := IsF) (rr := .next) (r' := AF.next) R3 (AV.Is.grow σ3 i1) hv e4 rfl k3) (fun _ _ p => p.up.up) fun _ _ x => x
end
section
variable {prog : Program} {w : World} {K : Frag} {d : Nat} {q : Str} {sc : Scope} {f : Addr} {cd : Value} {en : Addr → Env}
variable {A : Around} {L : Addr} {h₀ : Heap} {s : Shared} {st : St} {ρ : List Addr} {T : Tabs}
theorem Rel.ext {P : Params} {h h' : Heap} {m : Str → Option Value} {cs : List (List (Addr × Obj))} (R : Rel P h₀ L h st ρ m cs) (hk : ∀ b o, h.get? b = some o → h'.get? b = some o) : Rel P h₀ L h' st ρ m cs := by
  obtain ⟨oL, a1, a2, hL, a3⟩ := R.fr.ns
  exact ⟨⟨⟨oL, a1, a2, hk _ _ hL, a3⟩, fun b o e => hk _ _ (R.fr.keep b o e), R.fr.above⟩, fun p hp => ⟨hk _ _ (R.nw p hp).1, (R.nw p hp).2⟩, R.nd, R.ob, R.lo⟩
theorem Rl.ext {P : Params} {h h' : Heap} (R : Rl P h₀ L h st ρ) (hk : ∀ b o, h.get? b = some o → h'.get? b = some o) : Rl P h₀ L h' st ρ := let ⟨m, cs, R'⟩ := R; ⟨m, cs, R'.ext hk⟩
noncomputable def lm : Option TE → TE
  | none => ad .none
  | some T => T
noncomputable def SO (prog : Program) (w : World) (K : Frag) (d : Nat) (q : Str) (sc : Scope) (f : Addr) (cd : Value) (en : Addr → Env) (e : Option Expr) (T : Option TE) : Prop := Sd prog w K d q sc f cd en IsV (fun env => evalPart e env) (lm T)
theorem ik : SO prog w K d q sc f cd en none none := by
  refine ⟨?_⟩
  intro A L h₀ s _tp st ρ k C R H
  exact wpAny_pure (fin (b := AV.none) R rfl H)
theorem d5 {e : Expr} {T : TE} (h : SE prog w K d q sc f cd en e T) : SO prog w K d q sc f cd en (some e) (some T) := ⟨h.run⟩
inductive OptI : AV → Option Int → Prop
  | none : OptI .none none
  | int (i : Int) : OptI (.int i) (some i)
inductive SlI : AV → AV → AV → AV → Prop
  | mk (x : List Nat) (b c : AV) (lo hi : Option Int) (h1 : OptI b lo) (h2 : OptI c hi) (h : x.length ≤ 1000000) : SlI (.str x) b c (.str (sl lo hi x))
noncomputable def dG (To : TE) (Tl Th : Option TE) : TE := fun st k => To st fun a st1 => lm Tl st1 fun b st2 => lm Th st2 fun c st3 => ∃ r, SlI a b c r ∧ k r st3
theorem lU (b : Expr) (x : Str) (t : Tok) (r : Value) : letTemporaryGo b (.str x t) r = pure () := by cases b <;> rfl
theorem iT {v : Expr} {lo hi : Option Expr} {sp pos : Pos} {To : TE} {Tl Th : Option TE} (hv : SE prog w K d q sc f cd en v To) (hl : SO prog w K d q sc f cd en lo Tl) (hh : SO prog w K d q sc f cd en hi Th) :
    SE prog w K d q sc f cd en (.Subscript v (.Slice lo hi none sp) pos) (dG To Tl Th) := by
  refine ⟨?_⟩
  intro A L h₀ s _tp st ρ k C R H
  refine Subscript_ (sq (hv.run A L h₀ s inferInstance st ρ _ C R H) fun v h' tk _ a st1 σ R1 i1 k1 => wpAny_Slice ?_)
  refine sq (hl.run A L h₀ _ inferInstance st1 _ _ C R1 k1) fun u h2 tk2 _ b st2 σ2 R2 i2 k2 => ?_
  refine sq (hh.run A L h₀ _ inferInstance st2 _ _ C R2 k2) fun u3 h3 tk3 _ c st3 σ3 R3 i3 k3 => ?_
  refine wpAny_pure ?_
  have i1' := AV.Is.grow σ3 (AV.Is.grow σ2 i1)
  have i2' := AV.Is.grow σ3 i2
  obtain ⟨m, cs, R3'⟩ := R3
  obtain ⟨r, hs, k3⟩ := k3
  have done : ∀ h4 t4 tk4, r.Is (ρ ++ σ ++ σ2 ++ σ3) t4 → Fr h₀ L h4 m → News h₀ L h4 cs.flatten → Post w h₀ L IsV s ρ k t4 { s with heap := h4, toks := tk4 } := fun h4 t4 tk4 hr F4 N4 =>
    Post.up (Post.up (Post.up ⟨h4, tk4, r, st3, [], rfl, ⟨m, cs, by rw [List.append_nil]; exact ⟨F4, N4, R3'.nd, R3'.ob, R3'.lo⟩⟩, by rw [List.append_nil]; exact hr, k3⟩))
  cases hs with
  | mk x b c lo hi p1 p2 hb =>
    obtain ⟨t, rfl⟩ := i1'
    have fits : (txt x).length ≤ sizeLine := by rw [a9]; exact Nat.le_trans hb (by decide)
    have fin := fun (h4 : Heap) (t4 tk4 : Nat) F4 N4 => done h4 (.str (Txt.slice (txt x) lo hi) t4) tk4 ⟨t4, by rw [nJ]⟩ F4 N4
    cases p1 with
    | none =>
      obtain rfl := i2'
      cases p2 with
      | none => obtain rfl := i3; exact slice_strN_nn (s := { s with heap := h3, toks := tk3 }) R3'.fr R3'.nw fin rfl (lU _ _ _) fits
      | int j => obtain ⟨tj, rfl⟩ := i3; exact slice_strN_ns (s := { s with heap := h3, toks := tk3 }) R3'.fr R3'.nw fin rfl (lU _ _ _) fits
    | int i =>
      obtain ⟨ti, rfl⟩ := i2'
      cases p2 with
      | none => obtain rfl := i3; exact slice_strN_sn (s := { s with heap := h3, toks := tk3 }) R3'.fr R3'.nw fin rfl (lU _ _ _) fits
      | int j => obtain ⟨tj, rfl⟩ := i3; exact slice_strN_ss (s := { s with heap := h3, toks := tk3 }) R3'.fr R3'.nw fin rfl (lU _ _ _) fits
noncomputable def fZ (prog : Program) (w : World) (K : Frag) (d : Nat) (fv : Value) (Tf : TF) : Prop :=
  ∀ (A : Around) (q : Str) (sc : Scope) (L fa : Addr) (cd : Value) (h₀ : Heap) (s : Shared) (_ : Tk s.toks) (st : St) (ρ : List Addr) (k : AV → St → Prop) (avs : List AV) (vs : List Value),
    Cx K d A q sc L fa cd h₀ → Rl w.params h₀ L s.heap st ρ → Vals ρ avs vs → Tf avs st.objs (fun v os => k v { st with objs := os }) → wpAny (model prog w) A (PySem.call fv vs) (Post w h₀ L IsV s ρ k) No s
theorem jB {M : Model} {E : Value → Shared → Prop} {env : Env} {es : List Expr} {pos : Pos} {fv : Value} {first : List Value} {Q : Value → Shared → Prop} (hf : (∃ id, fv = .builtin id) ∨ ∃ T, fv = .type T) (hp : eN es)
    (h : wpAny M A (spliced (es.map fun e => (false, eval e env))) (fun vs s₁ => wpAny M A (PySem.call fv (first ++ vs)) Q E s₁) E s) : wpAny M A (callWith pos fv first (backTo pos (starEach es env)) []) Q E s := by
  rw [hp, cZ]
  have ev : wpAny M A (evalArgs fv true (es.map fun e => (false, eval e env)) []) (fun a s₁ => wpAny M A (PySem.call fv (first ++ a.pos) a.kw) Q E s₁) E s := by
    cases es with
    | nil =>
      have : wpAny M A (spliced []) (fun vs s₁ => wpAny M A (PySem.call fv (first ++ vs)) Q E s₁) E s := h
      unfold evalArgs
      show wpAny _ _ (spliced [] >>= _) _ _ _
      refine wpAny_bind (wpAny_mono this (fun vs s' h' => wpAny_bind (wpAny_pure (wpAny_holding (wpAny_bind (wpAny_pure (wpAny_bind (wpAny_pure (wpAny_pure h'))))))) ) fun _ _ x => x)
    | cons e r => exact evalArgs_plain h
  rcases hf with ⟨id, rfl⟩ | ⟨T, rfl⟩
  · exact callWith_builtin (e9 _ _) ev
  · exact PyProof.Rows.callWith_type (e9 _ _) ev
theorem sBC {fv : Value} {Tf : TF} {x : Str} {xp pos : Pos} {es : List Expr} {Ts : List TE} (hf : fZ prog w K d fv Tf) (hfv : (∃ id, fv = .builtin id) ∨ ∃ T, fv = .type T) (e : nsIn K mainGlobals x = some none) (hv : bootBuiltins x = some fv) (hn : x ≠ "__name__")
    (ge : GE en x) (hd : (x == ("__debug__" : Str)) = false)
    (hp : eN es) (ha : AllE prog w K d q sc f cd en es Ts) (hc : ∀ env, eval (.Call (.Name x xp) es [] pos) env = (do callWith pos (← eval (.Name x xp) env) [] (backTo pos (starEach es env)) (backToKw pos (keywordEach [] env)))) :
    SE prog w K d q sc f cd en (.Call (.Name x xp) es [] pos) (aW Tf Ts) := by
  refine ⟨?_⟩
  intro A L h₀ s _tp st ρ k C R H
  obtain ⟨m, cs, R'⟩ := R
  refine Call_ (nz C.glo R'.fr e hv hn ge hd ?_) (hc _)
  refine jB hfv hp (sq ((gA ha).run A L h₀ s inferInstance st ρ _ C ⟨m, cs, R'⟩ H) fun vs h' tk _ avs st' σ R1 i kk => ?_)
  exact go (hf A q sc L f cd h₀ { s with heap := h', toks := tk } inferInstance st' (ρ ++ σ) k avs vs C R1 i kk)
noncomputable def f0 (os : List AO) : AV → Nat
  | .str _ => 1
  | .obj i => match os[i]? with
    | some (.list _) => 2
    | _ => 0
  | _ => 0
noncomputable def nM : Nat → String
  | 1 => "str"
  | _ => "list"
theorem lV {h : Heap} {tk : Nat} (R : Rl w.params h₀ L h st ρ) {a : AV} {v : Value} {n : Nat} (ha : a.Is ρ v) (e : f0 st.objs a = n) (hn : n ≠ 0) :
    Shared.TypeIs { s with heap := h, toks := tk } v (nM n) ∧ PlainAttrs (nM n) ∧ ∀ x, v = .ref x → ∃ o, h.get? x = some o ∧ o.dict = none := by
  unfold f0 at e
  split at e
  · subst e
    obtain ⟨t, rfl⟩ := ha
    exact ⟨typeIs_str _ _ _, PySem.F.plainAttrs_str, fun _ e => nomatch e⟩
  · rename_i i
    split at e
    · rename_i l hi
      subst e
      obtain ⟨x, hx, rfl⟩ := ha
      obtain ⟨m, cs, R'⟩ := R
      obtain ⟨x', c, hx', hc, ws, n, hv, rfl⟩ := R'.ob.get hi
      obtain rfl : x = x' := Option.some.inj (hx.symm.trans hx')
      have hg := (R'.nw _ (bH hc (.head _))).1
      exact ⟨⟨_, hg, rfl⟩, PySem.F.plainAttrs_list, fun y e => by cases e; exact ⟨_, hg, rfl⟩⟩
    · exact absurd e.symm hn
  · exact absurd e.symm hn
noncomputable def aBM (n : Nat) (Tf : TF) (To : TE) (Ts : List TE) : TE := fun st k => To st fun a st1 => bif Nat.beq (f0 st1.objs a) n then aX Ts st1 fun avs st2 => Tf (a :: avs) st2.objs fun v os => k v { st2 with objs := os } else False
theorem sBM {n : Nat} {id : String} {Tf : TF} {o : Expr} {x : Str} {ap pos : Pos} {es : List Expr} {To : TE} {Ts : List TE} (hn : n ≠ 0) (slot : Slot (nM n) x id) (hty : typeOf (.builtin id) = pure (.type "method_descriptor")) (hf : fZ prog w K d (.builtin id) Tf)
    (ho : SE prog w K d q sc f cd en o To) (hp : eN es) (ha : AllE prog w K d q sc f cd en es Ts) (hc : fP o x ap pos es) : SE prog w K d q sc f cd en (.Call (.Attribute o x ap) es [] pos) (aBM n Tf To Ts) := by
  refine ⟨?_⟩
  intro A L h₀ s _tp st ρ k C R H
  obtain ⟨pl, he⟩ := hc (en L)
  refine methodCall_KW (pl := pl) (sq (ho.run A L h₀ s inferInstance st ρ _ C R H) fun v h' tk _ a st1 σ R1 i kk => ?_) he
  cases e : Nat.beq (f0 st1.objs a) n with
  | false => rw [e] at kk; exact kk.elim
  | true =>
    rw [e] at kk
    obtain ⟨t1, t2, t3⟩ := lV (s := s) (tk := tk) R1 i (Nat.eq_of_beq_eq_true e) hn
    refine getMethod_builtin t1 t2 slot hty t3 ?_
    refine jB (.inl ⟨id, rfl⟩) hp (sq ((gA ha).run A L h₀ _ inferInstance st1 _ _ C R1 kk) fun vs h2 tk2 _ avs st2 σ2 R2 i2 k2 => ?_)
    exact wpAny_mono (hf A q sc L f cd h₀ { s with heap := h2, toks := tk2 } inferInstance st2 (ρ ++ σ ++ σ2) k (a :: avs) (v :: vs) C R2 ⟨v, vs, rfl, AV.Is.grow σ2 i, i2⟩ k2) (fun _ _ p => p.up.up) fun _ _ x => x
end
theorem jC (x y : Str) (j : Int) (t u v v' : Tok) (hj : 0 ≤ j) (hx : j ≤ x.length) : Gives (Builtin.«str.count» ⟨[.str x t, .str y u, .int 0 v, .int j v'], []⟩) (.int (Builtin.Str.occurrences x y 0 j.toNat (x.length + 1)).length) := by
  have e : min (max 0 (if j < 0 then j + x.length else j)).toNat x.length = j.toNat := by rw [if_neg (by lia)]; lia
  show Gives (retInt (Builtin.Str.occurrences x y 0 (min (max 0 (if j < 0 then j + x.length else j)).toNat x.length) (x.length + 1)).length) _
  rw [e]
  exact .of_eq rfl
theorem jE (x y : Str) (j : Int) (t u v v' : Tok) (hj : 0 ≤ j) (hx : j ≤ x.length) : Gives (Builtin.«str.rfind» ⟨[.str x t, .str y u, .int 0 v, .int j v'], []⟩) (.int (match Builtin.Str.lastOccurrence x y 0 j.toNat with | some i => (i : Int) | none => -1)) := by
  have e : min (max 0 (if j < 0 then j + x.length else j)).toNat x.length = j.toNat := by rw [if_neg (by lia)]; lia
  show Gives (match Builtin.Str.lastOccurrence x y 0 (min (max 0 (if j < 0 then j + x.length else j)).toNat x.length) with | some i => retInt i | none => (do rule "str.rfind.not-found"; retInt (-1))) _
  rw [e]
  cases Builtin.Str.lastOccurrence x y 0 j.toNat with
  | none => exact .rule (.of_eq rfl)
  | some k => exact .of_eq rfl
noncomputable def cnt (x y : List Nat) (j : Nat) : Int := ((Builtin.Str.occurrences (txt x) (txt y) 0 j (x.length + 1)).length : Nat)
noncomputable def rfi (x y : List Nat) (j : Nat) : Int := match Builtin.Str.lastOccurrence (txt x) (txt y) 0 j with | some i => (i : Int) | none => -1
noncomputable def rep (x y z : List Nat) : List Nat := (Txt.replace (txt x) (txt y) (txt z)).cps.toList
noncomputable def spl (x y : List Nat) : List (List Nat) := (Txt.split (txt x) (txt y)).map fun s => s.cps.toList
noncomputable def joi (x : List Nat) (l : List (List Nat)) : List Nat := (Txt.join (txt x) (l.map txt)).cps.toList
theorem lp (s : Str) : txt s.cps.toList = s := by cases s; simp [txt]
theorem nN {ρ : List Addr} {xs : List (List Nat)} : ∀ {ws : List Value}, Vals ρ (xs.map .str) ws → StrsAre ws (xs.map txt) := by
  induction xs with
  | nil => intro ws h; obtain rfl := h; exact .nil
  | cons a r ih =>
    intro ws h
    obtain ⟨v, vs', rfl, ⟨t, rfl⟩, hr⟩ := h
    exact .cons _ _ (ih hr)
noncomputable def fw : List (List Nat) → Nat
  | [] => 0
  | s :: r => s.length + fw r
theorem nP (xs : List (List Nat)) : ((xs.map txt).map (fun x => x.length)).sum = fw xs := by
  induction xs with
  | nil => rfl
  | cons s r ih => simp only [List.map_cons, List.sum_cons, fw, a9] at ih ⊢; lia
section
variable {prog : Program} {w : World} {K : Frag} {d : Nat} {q : Str} {sc : Scope} {f : Addr} {cd : Value} {en : Addr → Env}
variable {A : Around} {L : Addr} {h₀ : Heap} {s : Shared} {st : St} {ρ : List Addr} {T : Tabs}
inductive LAt (h : Heap) (ρ : List Addr) (cs : List (List (Addr × Obj))) (i : Nat) (x : Addr) (l : List AV) : Prop
  | mk (ws : List Value) (n : Nat) (hc : cs[i]? = some [(x, listOf ws.toArray n)]) (hv : Vals ρ l ws) (hg : h.get? x = some (listOf ws.toArray n)) : LAt h ρ cs i x l
theorem Rel.listAt {P : Params} {h : Heap} {m : Str → Option Value} {cs : List (List (Addr × Obj))} (R : Rel P h₀ L h st ρ m cs) {i : Nat} {x : Addr} {l : List AV} (hi : st.objs[i]? = some (.list l)) (hx : ρ[i]? = some x) : LAt h ρ cs i x l := by
  obtain ⟨xd, cdd, hxd, hcd, ws, nD, hvD, rfl⟩ := R.ob.get hi
  obtain rfl : x = xd := Option.some.inj (hx.symm.trans hxd)
  exact ⟨ws, nD, hcd, hvD, (R.nw _ (bH hcd (.head _))).1⟩
inductive LenI (os : List AO) : AV → Nat → Prop
  | str (x : List Nat) (h : x.length ≤ 1000000) : LenI os (.str x) x.length
  | list (i : Nat) (l : List AV) (hi : os[i]? = some (.list l)) (h : l.length ≤ 1000000) : LenI os (.obj i) l.length
  | dict (i : Nat) (fs : List (Nat × AV)) (hi : os[i]? = some (.dict fs)) (h : fs.length ≤ 1000) (hf : free fs = true) : LenI os (.obj i) fs.length
noncomputable def eT : TF := fun avs os k => ∃ a n, avs = [a] ∧ LenI os a n ∧ k (.int n) os
theorem kn : fZ prog w K d (.builtin "len") eT := by
  intro A q sc L fa cd h₀ s _tp st ρ k avs vs C R V H
  obtain ⟨a, n, rfl, hI, H⟩ := H
  cases hI with
  | str x hl =>
    obtain ⟨v, vs', rfl, ⟨t, rfl⟩, rfl⟩ := V
    exact PySem.P.len_str (by rw [a9]; lia) (dP (b := AV.int x.length) R ⟨_, by rw [a9]⟩ H)
  | list i l hi hl =>
    obtain ⟨v, vs', rfl, ⟨xa, hx, rfl⟩, rfl⟩ := V
    have Rc := R
    obtain ⟨m, cs, R'⟩ := R
    obtain ⟨ws, n, _, hv, hg⟩ := R'.listAt hi hx
    have hn := hv.len
    exact len_list ⟨_, hg, rfl, n, rfl⟩ (by rw [List.size_toArray, hn]; lia) (dP (b := AV.int l.length) Rc ⟨_, by rw [List.size_toArray, hn]⟩ H)
  | dict i fs hi hl hf =>
    obtain ⟨v, vs', rfl, ⟨xa, hx, rfl⟩, rfl⟩ := V
    obtain ⟨⟨kvs, q1, q2, q3⟩, low⟩ := R.dict (prog := prog) hi hx hf
    exact call_len_dict low q1 (by rw [q3]; lia) (dP (b := AV.int fs.length) R ⟨_, by rw [q3]⟩ H)
noncomputable def jF : TF := fun avs os k => ∃ c : Nat, avs = [.str [c]] ∧ k (.int c) os
theorem pE : fZ prog w K d (.builtin "ord") jF := by
  intro A q sc L fa cd h₀ s _tp st ρ k avs vs C R V H
  obtain ⟨c, rfl, H⟩ := H
  obtain ⟨v, vs', rfl, ⟨t, rfl⟩, rfl⟩ := V
  exact PySem.P.ord_of_char (dP (b := AV.int c) R ⟨_, rfl⟩ H)
noncomputable def nQ : TF := fun avs os k => ∃ i : Int, avs = [.int i] ∧ (decide (i < 0) || decide (i > 0x10FFFF)) = false ∧ k (.str [i.toNat]) os
theorem rB : fZ prog w K d (.builtin "chr") nQ := by
  intro A q sc L fa cd h₀ s _tp st ρ k avs vs C R V H
  obtain ⟨i, rfl, hb, H⟩ := H
  obtain ⟨v, vs', rfl, ⟨t, rfl⟩, rfl⟩ := V
  exact PySem.P.chr_of_int hb (dP (b := AV.str [i.toNat]) R ⟨_, rfl⟩ H)
noncomputable def qS : TF := fun avs os k => ∃ a b : Int, avs = [.int a, .int b] ∧ k (.int (if b < a then b else a)) os
theorem sG : fZ prog w K d (.builtin "min") qS := by
  intro A q sc L fa cd h₀ s _tp st ρ k avs vs C R V H
  obtain ⟨a, b, rfl, H⟩ := H
  obtain ⟨v, vs', rfl, ⟨t, rfl⟩, v2, vs2, rfl, ⟨u, rfl⟩, rfl⟩ := V
  refine min_two_ints C.hand fun h' tk hk => dP (b := AV.int (if b < a then b else a)) (R.ext hk) ?_ H
  split
  · exact ⟨_, rfl⟩
  · exact ⟨_, rfl⟩
inductive IsD (os : List AO) (i : Nat) : Bool → Prop
  | list (l : List AV) (hi : os[i]? = some (.list l)) : IsD os i false
  | dict (fs : List (Nat × AV)) (hi : os[i]? = some (.dict fs)) : IsD os i true
noncomputable def jG : TF := fun avs os k => ∃ i b, avs = [.obj i, .glob (.type "dict")] ∧ IsD os i b ∧ k (.bool b) os
theorem pF : fZ prog w K d (.builtin "isinstance") jG := by
  intro A q sc L fa cd h₀ s _tp st ρ k avs vs C R V H
  obtain ⟨i, b, rfl, hI, H⟩ := H
  obtain ⟨v, vs', rfl, ⟨xa, hx, rfl⟩, v2, vs2, rfl, rfl, rfl⟩ := V
  have Rc := R
  obtain ⟨m, cs, R'⟩ := R
  cases hI with
  | list l hi =>
    obtain ⟨ws, n, _, hv, hg⟩ := R'.listAt hi hx
    exact PySem.IsiPair.list_dict hg rfl (dP (b := AV.bool false) Rc rfl H)
  | dict fs hi =>
    obtain ⟨x', c, hx', hc, es, n, hv, rfl, _⟩ := R'.ob.get hi
    obtain rfl : xa = x' := Option.some.inj (hx.symm.trans hx')
    exact PySem.IsiPair.dict_dict (R'.nw _ (bH hc (.head _))).1 rfl (fin (b := AV.bool true) Rc rfl H)
noncomputable def rC : TF := fun avs os k => ∃ x y j, avs = [.str x, .str y, .int 0, .int j] ∧ 0 ≤ j ∧ j ≤ x.length ∧ k (.int (cnt x y j.toNat)) os
theorem sH : fZ prog w K d (.builtin "str.count") rC := by
  intro A q sc L fa cd h₀ s _tp st ρ k avs vs C R V H
  obtain ⟨x, y, j, rfl, h1, h2, H⟩ := H
  obtain ⟨v, vs', rfl, ⟨t, rfl⟩, v2, vs2, rfl, ⟨u, rfl⟩, v3, vs3, rfl, ⟨t3, rfl⟩, v4, vs4, rfl, ⟨t4, rfl⟩, rfl⟩ := V
  exact call_gives PySem.F.slot_str_count (typeIs_str _ _ _) PySem.F.entry_str_count (PySem.F.args_str_count_4 _ _ _ _) (jC (txt x) (txt y) j t u t3 t4 h1 (by rw [a9]; exact h2)) (dP (b := AV.int (cnt x y j.toNat)) R ⟨_, by unfold cnt; rw [a9]⟩ H)
noncomputable def rD : TF := fun avs os k => ∃ x y j, avs = [.str x, .str y, .int 0, .int j] ∧ 0 ≤ j ∧ j ≤ x.length ∧ k (.int (rfi x y j.toNat)) os
theorem sI : fZ prog w K d (.builtin "str.rfind") rD := by
  intro A q sc L fa cd h₀ s _tp st ρ k avs vs C R V H
  obtain ⟨x, y, j, rfl, h1, h2, H⟩ := H
  obtain ⟨v, vs', rfl, ⟨t, rfl⟩, v2, vs2, rfl, ⟨u, rfl⟩, v3, vs3, rfl, ⟨t3, rfl⟩, v4, vs4, rfl, ⟨t4, rfl⟩, rfl⟩ := V
  exact call_gives PySem.F.slot_str_rfind (typeIs_str _ _ _) PySem.F.entry_str_rfind (PySem.F.args_str_rfind_4 _ _ _ _) (jE (txt x) (txt y) j t u t3 t4 h1 (by rw [a9]; exact h2)) (dP (b := AV.int (rfi x y j.toNat)) R ⟨_, rfl⟩ H)
noncomputable def jH : TF := fun avs os k => ∃ x y, avs = [.str x, .str y] ∧ x.length ≤ 1000000 ∧ y ≠ [] ∧ k (.obj os.length) (os ++ [.list ((spl x y).map .str)])
theorem lW : ∀ (l : List (Str × Tok)), Vals ρ ((l.map fun p => p.1.cps.toList).map .str) (strValues l)
  | [] => rfl
  | p :: r => ⟨_, _, rfl, ⟨p.2, by rw [lp]⟩, lW r⟩
theorem rE : fZ prog w K d (.builtin "str.split") jH := by
  intro A q sc L fa cd h₀ s _tp st ρ k avs vs C R V H
  obtain ⟨x, y, rfl, hl, h2, H⟩ := H
  obtain ⟨v, vs', rfl, ⟨t, rfl⟩, v2, vs2, rfl, ⟨u, rfl⟩, rfl⟩ := V
  obtain ⟨m, cs, R'⟩ := R
  refine splitN1 R'.fr R'.nw (by rw [a9]; cases y with
    | nil => exact absurd rfl h2
    | cons c r => rfl) (fun l h' tk e F' N' => ?_) (by rw [a9]; exact Nat.le_trans (Nat.add_le_add_right hl 2) (by decide))
  refine fb (ao := .list ((spl x y).map .str)) rfl R' F' N' (fun p hp => Heap.lt_size (R'.nw p hp).1) ⟨strValues l, 0, ?_, rfl⟩ H
  unfold spl
  rw [← e]
  have := lW (ρ := ρ ++ [s.heap.objs.size]) l
  simpa [List.map_map, Function.comp_def] using this
noncomputable def d6 : TF := fun avs os k => ∃ x i xs, avs = [.str x, .obj i] ∧ os[i]? = some (.list (xs.map .str)) ∧ fw xs + xs.length * x.length ≤ 1000000 ∧ k (.str (joi x xs)) os
theorem mM : fZ prog w K d (.builtin "str.join") d6 := by
  intro A q sc L fa cd h₀ s _tp st ρ k avs vs C R V H
  obtain ⟨x, i, xs, rfl, hi, hl, H⟩ := H
  obtain ⟨v, vs', rfl, ⟨t, rfl⟩, v2, vs2, rfl, ⟨xa, hx, rfl⟩, rfl⟩ := V
  have Rc := R
  obtain ⟨m, cs, R'⟩ := R
  obtain ⟨ws, n, _, hv, hg⟩ := R'.listAt hi hx
  exact join_list ⟨_, hg, rfl, n, rfl⟩ (nN hv) (by rw [nP, List.length_map, a9]; exact Nat.le_trans hl (by decide)) fun t' tk => dP (b := AV.str (joi x xs)) Rc ⟨t', by unfold joi; rw [lp]⟩ H
noncomputable def gH (y z : List Nat) (To : TE) : TE := fun st k => To st fun a st1 => match a with
  | .str x => bif Nat.ble x.length 100000 && Nat.ble z.length 100 && !decide (y = z) then k (.str (rep x y z)) st1 else False
  | _ => False
theorem pG {o : Expr} {y z : List Nat} {ys zs : Str} {n1 n2 : Nat} {x : Str} {ap p1 p2 pos : Pos} {To : TE} {id : String} (hid : id = "str.replace") (slot : Slot "str" x id) (hty : typeOf (.builtin id) = pure (.type "method_descriptor")) (hy : txt y = ys) (hz : txt z = zs) (ho : SE prog w K d q sc f cd en o To)
    (hp : eN [.Constant (.str ys) n1 p1, .Constant (.str zs) n2 p2])
    (hc : fP o x ap pos [.Constant (.str ys) n1 p1, .Constant (.str zs) n2 p2]) : SE prog w K d q sc f cd en (.Call (.Attribute o x ap) [.Constant (.str ys) n1 p1, .Constant (.str zs) n2 p2] [] pos) (gH y z To) := by
  refine ⟨?_⟩
  intro A L h₀ s _tp st ρ k C R H
  subst hy hz
  obtain ⟨pl, he⟩ := hc (en L)
  refine methodCall_KW (pl := pl) (sq (ho.run A L h₀ s inferInstance st ρ _ C R H) fun v h' tk T0 a st1 σ R1 i kk => ?_) he
  split at kk
  · rename_i x
    obtain ⟨t, rfl⟩ := i
    cases hb : (Nat.ble x.length 100000 && Nat.ble z.length 100 && !decide (y = z)) with
    | false => rw [hb] at kk; exact kk.elim
    | true =>
      rw [hb] at kk
      obtain ⟨h12, h3⟩ := Bool.and_eq_true_iff.mp hb
      obtain ⟨h1, h2⟩ := Bool.and_eq_true_iff.mp h12
      have l1 := Nat.le_of_ble_eq_true h1
      have l2 := Nat.le_of_ble_eq_true h2
      obtain ⟨t1, t2, t3⟩ := lV (s := s) (tk := tk) (a := .str x) (n := 1) (v := .str (txt x) t) R1 ⟨t, rfl⟩ rfl (by decide)
      have t1' : Shared.TypeIs { s with heap := h', toks := tk } (.str (txt x) t) "str" := t1
      have t2' : PlainAttrs "str" := t2
      with_reducible refine getMethod_builtin t1' t2' slot hty t3 ?_
      refine jB (.inl ⟨_, rfl⟩) hp (spliced_cons (wpAny_Constant_str (spliced_cons (wpAny_Constant_str (spliced_nil ?_)))))
      subst hid
      have tp : tk ≠ 0 := Nat.pos_iff_ne_zero.mp T0.pos
      refine SC.replace tp (Nat.succ_ne_zero _) (Nat.ne_of_lt (Nat.lt_succ_self _)) (by rw [fR]; simpa using h3) (by
        rw [a9, a9]
        exact Nat.le_trans (Nat.add_le_add l1 (Nat.mul_le_mul (Nat.add_le_add_right l1 1) l2)) (by lia)) fun t' tk' => ?_
      exact ⟨h', tk', .str (rep x y z), st1, σ, rfl, R1, ⟨t', by unfold rep; rw [lp]⟩, kk⟩
  · exact kk.elim
noncomputable def bP : TF := fun avs os k => ∃ i a l, avs = [.obj i, a] ∧ os[i]? = some (.list l) ∧ l.length ≤ 100000 ∧ k .none (os.set i (.list (l ++ [a])))
theorem Vals.snoc {l : List AV} {ws : List Value} {a : AV} {v : Value} (h : Vals ρ l ws) (hv : a.Is ρ v) : Vals ρ (l ++ [a]) (ws ++ [v]) := by
  induction l generalizing ws with
  | nil => obtain rfl := h; exact ⟨v, [], rfl, hv, rfl⟩
  | cons b r ih => obtain ⟨u, us, rfl, hu, hr⟩ := h; exact ⟨u, us ++ [v], rfl, hu, ih hr⟩
theorem cG : fZ prog w K d (.builtin "list.append") bP := by
  intro A q sc L fa cd h₀ s _tp st ρ k avs vs C R V H
  obtain ⟨i, a, l, rfl, hi, hl, H⟩ := H
  obtain ⟨v, vs', rfl, ⟨xa, hx, rfl⟩, v2, vs2, rfl, h2, rfl⟩ := V
  obtain ⟨m, cs, R'⟩ := R
  obtain ⟨ws, n, hc, hv, hg⟩ := R'.listAt hi hx
  refine append_at hg (fun h' hs ho => ?_) (by rw [List.size_toArray, hv.len]; exact Nat.le_trans hl (by decide))
  exact dP (st := { st with objs := st.objs.set i (.list (l ++ [a])) }) (b := AV.none) ⟨m, _, R'.upd hc hx hs ho (ao := .list (l ++ [a])) ⟨ws ++ [v2], n + 1, hv.snoc h2, by rw [List.push_toArray]⟩⟩ rfl H
noncomputable def nR : TF := fun avs os k => ∃ i p y, avs = [.obj i] ∧ os[i]? = some (.list (p ++ [y])) ∧ p.length ≤ 99999 ∧ k y (os.set i (.list p))
theorem pH {p : List AV} {y : AV} : ∀ {ws : List Value}, Vals ρ (p ++ [y]) ws → ∃ us v, kl_last ws = some (us, v) ∧ Vals ρ p us ∧ y.Is ρ v := by
  induction p with
  | nil =>
    intro ws h
    obtain ⟨v, vs', rfl, h1, rfl⟩ := h
    exact ⟨[], v, rfl, rfl, h1⟩
  | cons a r ih =>
    intro ws h
    obtain ⟨v, vs', rfl, h1, h2⟩ := h
    obtain ⟨us, u, k1, k2, k3⟩ := ih h2
    exact ⟨v :: us, u, by unfold kl_last; rw [k1], ⟨v, us, rfl, h1, k2⟩, k3⟩
theorem sJ : fZ prog w K d (.builtin "list.pop") nR := by
  intro A q sc L fa cd h₀ s _tp st ρ k avs vs C R V H
  obtain ⟨i, p, y, rfl, hi, hl, H⟩ := H
  obtain ⟨v, vs', rfl, ⟨xa, hx, rfl⟩, rfl⟩ := V
  obtain ⟨m, cs, R'⟩ := R
  obtain ⟨ws, n, hc, hv, _⟩ := R'.listAt hi hx
  obtain ⟨us, u, k1, k2, k3⟩ := pH hv
  have hn := hv.len
  rw [List.length_append] at hn
  have e1 := e8 hc
  have e2 := dZ [(xa, W.listOf us.toArray (n + 1))] hc
  have nd := R'.nd
  simp only [List.append_assoc, List.singleton_append] at e1 e2
  have U := nv (W.listOf us.toArray (n + 1)) (by rw [← e1]; exact nd)
  rw [← e1, ← e2] at U
  refine kl_pop R'.fr R'.nw k1 U (by rw [hn]; exact Nat.le_trans (Nat.succ_le_succ hl) (by decide)) fun h' F' N' => ?_
  refine dP (st := { st with objs := st.objs.set i (.list p) }) (b := y) ⟨m, cs.set i _, F', N', ?_, R'.ob.put hx ⟨us, n + 1, k2, rfl⟩, R'.lo⟩ k3 H
  rw [e2]
  rw [e1] at nd
  simpa using nd
end
section
variable {prog : Program} {w : World} {K : Frag} {d : Nat} {q : Str} {sc : Scope} {f : Addr} {cd : Value} {en : Addr → Env}
variable {A : Around} {L : Addr} {h₀ : Heap} {s : Shared} {st : St} {ρ : List Addr} {T : Tabs}
theorem jI {e o : Expr} {x : Str} {n m : Nat} {cp ap pos : Pos} {Tv To : TE} (hn : nm n = x) (he : SE prog w K d q sc f cd en e Tv) (ho : SE prog w K d q sc f cd en o To)
    (hs : ∀ env, swapsWith e (some (.Subscript o (.Constant (.str x) m cp) ap)) pos.line env = pure false) : S1 prog w K d q sc f cd en (.Assign [.Subscript o (.Constant (.str x) m cp) ap] e pos) (dJ n Tv To) := by
  refine ⟨?_⟩
  intro A L h₀ s _tp st ρ k C R H
  subst hn
  refine wpAny_Assign_Subscript (sq (he.run A L h₀ s inferInstance st ρ _ C R H) fun v h' tk _ b st1 σ R1 i1 k1 => sq (ho.run A L h₀ _ inferInstance st1 _ _ C R1 k1) fun u h2 tk2 _ a st2 σ2 R2 i2 k2 => wpAny_Constant_str ?_) (hs _)
  cases e' : cR n b st2.objs a with
  | none => rw [e'] at k2; exact k2.elim
  | some os =>
    rw [e'] at k2
    exact wpAny_mono (i7 (s := { s with heap := h2, toks := tk2 + 1 }) (I := IsF) (rr := .next) (r' := AF.next) R2 i2 (AV.Is.grow σ2 i1) e' rfl k2) (fun _ _ p => p.up.up) fun _ _ x => x
noncomputable def SA (prog : Program) (w : World) (K : Frag) (d : Nat) (q : Str) (sc : Scope) (f : Addr) (cd : Value) (en : Addr → Env) (e : Expr) (U : AV → TS) : Prop :=
  ∀ (A : Around) (L : Addr) (h₀ : Heap) (s : Shared) (_ : Tk s.toks) (st : St) (ρ : List Addr) (k : AF → St → Prop) (a : AV) (v : Value), Cx K d A q sc L f cd h₀ → Rl w.params h₀ L s.heap st ρ → a.Is ρ v → U a st k →
    wpAny (model prog w) A (assign e (en L) v) (fun _ => Post w h₀ L IsF s ρ k .next) No s
noncomputable def aY (n : Nat) (a : AV) : TS := fun st k => k .next { st with loc := put n a st.loc }
theorem c9 {n : Nat} {x : Str} {pos : Pos} (hn : nm n = x) (hl : sc.names.lookup x = some .local) : SA prog w K d q sc f cd (fl q sc f cd) (.Name x pos) (aY n) := by
  intro A L h₀ s _tp st ρ k a v C R ha H
  exact assign_Name (lJ C R hn hl ha H)
noncomputable def ew (n : Nat) (To : TE) (b : AV) : TS := fun st k => To st fun a st1 => match eM n b st1.objs a with
  | some os => k .next { st1 with objs := os }
  | none => False
theorem lX (O : KOk K) {n : Nat} {o : Expr} {x : Str} {pos : Pos} {To : TE} (hn : nm n = x) (ho : SE prog w K d q sc f cd en o To) : SA prog w K d q sc f cd en (.Attribute o x pos) (ew n To) := by
  intro A L h₀ s _tp st ρ k b v C R hb H
  subst hn
  show wpAny _ _ (do
    let ov ← holding [v] (eval o (en L))
    standAt pos.atName
    holding [v, ov] (setAttr ov (nm n) v)
    release [v, ov] []) _ _ _
  refine wpAny_bind (wpAny_holding (sq (ho.run A L h₀ s inferInstance st ρ _ C R H) fun u h' tk _ a st1 σ R1 i1 k1 => wpAny_bind (wpAny_standAt (wpAny_bind (wpAny_holding ?_)))))
  cases e' : eM n b st1.objs a with
  | none => rw [e'] at k1; exact k1.elim
  | some os =>
    rw [e'] at k1
    exact wpAny_mono (qI (s := { s with heap := h', toks := tk }) O (r' := AF.next) (I := IsF) (r := .next) C R1 i1 (AV.Is.grow σ hb) e' rfl k1) (fun _ _ p => wpAny_release' p.up) fun _ _ x => x
inductive AllA (prog : Program) (w : World) (K : Frag) (d : Nat) (q : Str) (sc : Scope) (f : Addr) (cd : Value) (en : Addr → Env) : List Expr → List (AV → TS) → Prop
  | nil : AllA prog w K d q sc f cd en [] []
  | cons {e : Expr} {r : List Expr} {U : AV → TS} {Us : List (AV → TS)} : SA prog w K d q sc f cd en e U → (∀ env r, assignEach (e :: r) env = (false, assign e env) :: assignEach r env) → AllA prog w K d q sc f cd en r Us → AllA prog w K d q sc f cd en (e :: r) (U :: Us)
noncomputable def dT : List (AV → TS) → List AV → TS
  | U :: Us, a :: as => fun st k => U a st fun _ st' => dT Us as st' k
  | [], [] => fun st k => k .next st
  | _, _ => fun _ _ => False
theorem qT {es : List Expr} {Us : List (AV → TS)} (h : AllA prog w K d q sc f cd en es Us) : ∀ (A : Around) (L : Addr) (h₀ : Heap) (s : Shared) (_ : Tk s.toks) (st : St) (ρ : List Addr) (k : AF → St → Prop) (as : List AV) (vs : List Value),
    Cx K d A q sc L f cd h₀ → Rl w.params h₀ L s.heap st ρ → Vals ρ as vs → dT Us as st k → wpAny (model prog w) A (assignInOrder ((assignEach es (en L)).map (·.2)) vs) (fun _ => Post w h₀ L IsF s ρ k .next) No s := by
  induction h with
  | nil =>
    intro A L h₀ s _tp st ρ k as vs C R V H
    cases as with
    | nil => obtain rfl := V; exact wpAny_pure (fin (b := AF.next) R rfl H)
    | cons _ _ => exact H.elim
  | cons hU he _ ih =>
    intro A L h₀ s _tp st ρ k as vs C R V H
    cases as with
    | nil => exact H.elim
    | cons a as =>
      obtain ⟨v, vs', rfl, ha, hr⟩ := V
      rw [he]
      show wpAny _ _ (do holding vs' (assign _ (en L) v); assignInOrder _ vs') _ _ _
      refine wpAny_bind (wpAny_holding (wpAny_mono (jp (wpAny_mono (hU A L h₀ s inferInstance st ρ _ a v C R ha H) (fun _ s' p tp => And.intro tp p) fun _ _ x => x)) (fun _ s' pp => ?_) fun _ _ x => x))
      obtain ⟨tp, h', tk, b, st', σ, rfl, R', i, kk⟩ := pp
      exact wpAny_mono (ih A L h₀ { s with heap := h', toks := tk } tp st' (ρ ++ σ) k as vs' C R' (hr.grow σ) kk) (fun _ _ p => p.up) fun _ _ x => x
noncomputable def gu (T : Tabs) (Tv : TE) (Us : List (AV → TS)) : TS := fun st k => Tv st fun a st1 => match bt T st1.objs a with
  | some (true, l) => bif Nat.beq l.length Us.length then dT Us l st1 k else False
  | _ => False
theorem AllA.len {es : List Expr} {Us : List (AV → TS)} (h : AllA prog w K d q sc f cd en es Us) (env : Env) : (assignEach es env).length = Us.length ∧ (assignEach es env).findIdx? (·.1) = none := by
  induction h with
  | nil => exact ⟨rfl, rfl⟩
  | cons _ he _ ih => rw [he]; exact ⟨by rw [List.length_cons, List.length_cons, ih.1], by rw [List.findIdx?_cons]; simp [ih.2]⟩
theorem pI (O : TOk w.params K T) {elts : List Expr} {n : Nat} {tp pos : Pos} {e : Expr} {Tv : TE} {Us : List (AV → TS)} (he : SE prog w K d q sc f cd en e Tv) (ha : AllA prog w K d q sc f cd en elts Us)
    (hs : ∀ env, swapsWithSole [.Tuple elts n tp] e pos.line env = pure false) (hw : ∀ env, swappedStores [.Tuple elts n tp] e env = pure none) : S1 prog w K d q sc f cd en (.Assign [.Tuple elts n tp] e pos) (gu T Tv Us) := by
  refine ⟨?_⟩
  intro A L h₀ s _tp st ρ k C R H
  refine Assign_Tuple (sq (he.run A L h₀ s inferInstance st ρ _ C R H) fun v h' tk _ a st1 σ R1 i1 k1 => ?_) (hs _) (hw _)
  split at k1
  · rename_i l e1
    cases e2 : Nat.beq l.length Us.length with
    | false => rw [e2] at k1; exact k1.elim
    | true =>
      rw [e2] at k1
      have e2 := Nat.eq_of_beq_eq_true e2
      obtain ⟨xa, ws, o, rfl, hv, g1, g2, nn, g3⟩ := c7 O C.glo R1 i1 e1
      have hT : IsTup h' xa ws.toArray := ⟨o, g1, g2, nn, g3⟩
      obtain ⟨l1, l2⟩ := ha.len (en L)
      refine assign_Tuple_tuple (s := { s with heap := h', toks := tk }) C.hand hT (by rw [l1, ← e2]; simp [hv.len]) l2 fun h2 hx => ?_
      have hk : ∀ b o, h'.get? b = some o → h2.get? b = some o := fun b o e => hx b o (Nat.ne_of_lt (Heap.lt_size e)) e
      exact wpAny_mono (qT ha A L h₀ { s with heap := h2, toks := tk } inferInstance st1 (ρ ++ σ) k l ws C (R1.ext hk) hv k1) (fun _ _ p => p.up) fun _ _ x => x
  · exact k1.elim
end
section
variable {prog : Program} {w : World} {K : Frag} {d : Nat} {q : Str} {sc : Scope} {f : Addr} {cd : Value} {en : Addr → Env}
variable {A : Around} {L : Addr} {h₀ : Heap} {s : Shared} {st : St} {ρ : List Addr} {T : Tabs}
theorem Rel.updE {h h' : Heap} {m : Str → Option Value} {cs : List (List (Addr × Obj))} {i : Nat} {x : Addr} {o o' : Obj} {ao : AO} (R : Rel w.params h₀ L h st ρ m cs) (hc : cs[i]? = some [(x, o)]) (hx : ρ[i]? = some x)
    (hs : ∀ b ob, b ≠ x → h.get? b = some ob → h'.get? b = some ob) (ho : h'.get? x = some o') (hC : ao.Cells w.params ρ x [(x, o')]) : Rel w.params h₀ L h' { st with objs := st.objs.set i ao } ρ m (cs.set i [(x, o')]) := by
  have e1 := e8 hc
  have e2 := dZ [(x, o')] hc
  have nd := R.nd
  have N := R.nw
  rw [e1] at nd N
  simp only [List.append_assoc, List.singleton_append] at nd N e2
  have nd' := nd
  rw [List.map_append, List.map_cons, List.nodup_append, List.nodup_cons] at nd'
  obtain ⟨n1, ⟨n2, n3⟩, n4⟩ := nd'
  have a : ∀ p ∈ (cs.take i).flatten, p.1 ≠ x := fun p hp e => n4 p.1 (List.mem_map.mpr ⟨p, hp, rfl⟩) x (.head _) e
  have b : ∀ p ∈ (cs.drop (i + 1)).flatten, p.1 ≠ x := fun p hp e => n2 (List.mem_map.mpr ⟨p, hp, e⟩)
  have z := N (x, o) (List.mem_append.mpr (.inr (.head _)))
  obtain ⟨oL, a1, a2, hL, a3⟩ := R.fr.ns
  have hxL : L ≠ x := Ne.symm z.2.1
  refine ⟨⟨⟨oL, a1, a2, hs _ _ hxL hL, a3⟩, fun c ob e => hs _ _ (fun e2 => by subst e2; rw [z.2.2] at e; cases e) (R.fr.keep c ob e), R.fr.above⟩, ?_, ?_, R.ob.put hx hC, R.lo⟩
  · rw [e2]
    intro p hp
    rcases List.mem_append.mp hp with hp | hp
    · have zz := N p (List.mem_append.mpr (.inl hp))
      exact ⟨hs _ _ (a p hp) zz.1, zz.2⟩
    · rcases List.mem_cons.mp hp with rfl | hp
      · exact ⟨ho, z.2⟩
      · have zz := N p (List.mem_append.mpr (.inr (.tail _ hp)))
        exact ⟨hs _ _ (b p hp) zz.1, zz.2⟩
  · rw [e2]; simpa using nd
noncomputable abbrev gone : AO := .bag fun _ cs => cs = []
theorem Rel.drop {h h' : Heap} {m : Str → Option Value} {cs : List (List (Addr × Obj))} {i : Nat} {x : Addr} {o : Obj} (R : Rel w.params h₀ L h st ρ m cs) (hc : cs[i]? = some [(x, o)]) (hx : ρ[i]? = some x)
    (hs : ∀ b ob, b ≠ x → h.get? b = some ob → h'.get? b = some ob) : Rel w.params h₀ L h' { st with objs := st.objs.set i gone } ρ m (cs.set i []) := by
  have e1 := e8 hc
  have e2 := dZ [] hc
  have nd := R.nd
  have N := R.nw
  rw [e1] at nd N
  simp only [List.append_assoc, List.singleton_append, List.nil_append] at nd N e2
  have nd' := nd
  rw [List.map_append, List.map_cons, List.nodup_append, List.nodup_cons] at nd'
  obtain ⟨n1, ⟨n2, n3⟩, n4⟩ := nd'
  have a : ∀ p ∈ (cs.take i).flatten, p.1 ≠ x := fun p hp e => n4 p.1 (List.mem_map.mpr ⟨p, hp, rfl⟩) x (.head _) e
  have b : ∀ p ∈ (cs.drop (i + 1)).flatten, p.1 ≠ x := fun p hp e => n2 (List.mem_map.mpr ⟨p, hp, e⟩)
  have z := N (x, o) (List.mem_append.mpr (.inr (.head _)))
  obtain ⟨oL, a1, a2, hL, a3⟩ := R.fr.ns
  have hxL : L ≠ x := Ne.symm z.2.1
  refine ⟨⟨⟨oL, a1, a2, hs _ _ hxL hL, a3⟩, fun c ob e => hs _ _ (fun e2 => by subst e2; rw [z.2.2] at e; cases e) (R.fr.keep c ob e), R.fr.above⟩, ?_, ?_, R.ob.put hx rfl, R.lo⟩
  · rw [e2]
    intro p hp
    rcases List.mem_append.mp hp with hp | hp
    · have zz := N p (List.mem_append.mpr (.inl hp))
      exact ⟨hs _ _ (a p hp) zz.1, zz.2⟩
    · have zz := N p (List.mem_append.mpr (.inr (.tail _ hp)))
      exact ⟨hs _ _ (b p hp) zz.1, zz.2⟩
  · rw [e2]
    rw [List.map_append, List.nodup_append]
    exact ⟨n1, n3, fun c hc1 e hc2 => n4 c hc1 e (.tail _ hc2)⟩
noncomputable def eP (T : Tabs) (os : List AO) : AV → Option Nat
  | .str _ => some 0
  | a => match bt T os a with
    | some (false, _) => some 1
    | some (true, _) => some 2
    | none => none
noncomputable def cg (T : Tabs) (os : List AO) (tp : Nat) (src : AV) (i : Nat) : Option (Option AV) := match tp with
  | 0 => match src with
    | .str x => match x[i]? with
      | some c => some (some (.str [c]))
      | none => bif Nat.beq i x.length then some none else none
    | _ => none
  | 1 => match bt T os src with
    | some (false, l) => match l[i]? with
      | some a => some (some a)
      | none => bif Nat.beq i l.length then some none else none
    | _ => none
  | 2 => match bt T os src with
    | some (true, l) => match l[i]? with
      | some a => some (some a)
      | none => bif Nat.beq i l.length then some none else none
    | _ => none
  | _ => none
noncomputable def lr (ρ : List Addr) (i n : Nat) (P : Nat → Value → Prop) : Option AV → Prop
  | some a => i < n ∧ ∀ u, P i u → a.Is ρ u
  | none => i = n
theorem nS {x : List Nat} {i : Nat} {r : Option AV} (e : (match x[i]? with
      | some c => some (some (AV.str [c]))
      | none => bif Nat.beq i x.length then some none else none) = some r) : lr ρ i (txt x).cps.size (SignAt (txt x)) r := by
  split at e
  · rename_i c hcx
    cases e
    obtain ⟨hlt, _⟩ := List.getElem?_eq_some_iff.mp hcx
    refine ⟨by simpa [txt] using hlt, fun u hu => ?_⟩
    obtain ⟨c', u', h1, rfl⟩ := hu
    have : c' = c := by simp only [txt, List.getElem?_toArray] at h1; rw [hcx] at h1; exact (Option.some.inj h1).symm
    subst this
    exact ⟨u', rfl⟩
  · cases hb : Nat.beq i x.length with
    | false => rw [hb] at e; cases e
    | true => rw [hb] at e; cases e; show i = (txt x).cps.size; simpa [txt] using Nat.eq_of_beq_eq_true hb
theorem ko {l : List AV} {ws : List Value} {i : Nat} {r : Option AV} (hws : Vals ρ l ws) (e : (match l[i]? with
      | some a => some (some a)
      | none => bif Nat.beq i l.length then some none else none) = some r) : lr ρ i ws.toArray.size (fun i v => ws.toArray[i]? = some v) r := by
  have hn := hws.len
  split at e
  · rename_i a ha
    cases e
    obtain ⟨v, h1, h2⟩ := hws.get ha
    obtain ⟨hlt, _⟩ := List.getElem?_eq_some_iff.mp ha
    refine ⟨by simp; lia, fun u hu => ?_⟩
    have : u = v := by simp only [List.getElem?_toArray] at hu; rw [h1] at hu; exact (Option.some.inj hu).symm
    subst this; exact h2
  · cases hb : Nat.beq i l.length with
    | false => rw [hb] at e; cases e
    | true => rw [hb] at e; cases e; show i = ws.toArray.size; simp; rw [hn]; exact Nat.eq_of_beq_eq_true hb
theorem gP (O : TOk w.params K T) {Q : Option Value → Shared → Prop} {E : Value → Shared → Prop} (hh : A.handled = none) (G : Glo K h₀) (R : Rl w.params h₀ L s.heap st ρ) {j tp i : Nat} {src : AV} {I : Addr} {r : Option AV} (hj : st.objs[j]? = some (.iter tp src i)) (hI : ρ[j]? = some I)
    (e : cg T st.objs tp src i = some r)
    (h : ∀ h' tk, match r with
      | some a => ∀ v, a.Is ρ v → Rl w.params h₀ L h' { st with objs := st.objs.set j (.iter tp src (i + 1)) } ρ → Q (some v) { s with heap := h', toks := tk }
      | none => Rl w.params h₀ L h' { st with objs := st.objs.set j gone } ρ → Q none { s with heap := h', toks := tk }) : wpAny (model prog w) A (pyNext (.ref I)) Q E s := by
  have Rc := R
  obtain ⟨m, cs, R'⟩ := R
  obtain ⟨x', c, hx', hc, o, v, ty, hv, rfl, ho1, hty, ho2⟩ := R'.ob.get hj
  obtain rfl : I = x' := Option.some.inj (hI.symm.trans hx')
  have hg := (R'.nw _ (bH hc (.head _))).1
  dsimp only at hg
  have turn : ∀ (n : Nat) (P : Nat → Value → Prop) (St : Nat → Heap → Prop) (fp : List Addr), Walks prog w A I fp [I] n P St → St i s.heap →
      (∀ k h', St k h' → ∃ o', h'.get? I = some o' ∧ o'.cls = .type ty ∧ o'.data = .fields #[v, .int k 0]) →
      lr ρ i n P r → wpAny (model prog w) A (pyNext (.ref I)) Q E s := by
    intro n P St fp W hSt hO hr
    have hks : ∀ h' : Heap, (∀ b ob, b ∉ [I] → s.heap.get? b = some ob → h'.get? b = some ob) → ∀ b ob, b ≠ I → s.heap.get? b = some ob → h'.get? b = some ob := fun h' hk b ob hb e => hk b ob (by simpa using hb) e
    cases r with
    | some a =>
      obtain ⟨r1, r2⟩ := hr
      refine W.item i s Q E r1 hSt fun u h' tk hP hSt' hk => ?_
      obtain ⟨o', g1, g2, g3⟩ := hO _ _ hSt'
      exact h h' tk u (r2 u hP) ⟨m, _, R'.updE hc hI (hks h' hk) g1 ⟨o', v, ty, hv, rfl, g2, hty, g3⟩⟩
    | none =>
      obtain rfl : i = n := hr
      refine W.done s Q E hSt fun h' tk hk => ?_
      exact h h' tk ⟨m, _, R'.drop hc hI (hks h' hk)⟩
  unfold cg at e
  split at e
  · -- a text
    split at e
    · rename_i x
      obtain ⟨t, rfl⟩ := hv
      have hr := nS (ρ := ρ) e
      rcases hty with rfl | rfl
      · exact turn _ _ _ _ (Walks.strAscii hh I (txt x) t) ⟨o, hg, ho1, ho2⟩ (fun k h' ⟨o', a1, a2, a3⟩ => ⟨o', a1, a2, a3⟩) hr
      · exact turn _ _ _ _ (Walks.strWide hh I (txt x) t) ⟨o, hg, ho1, ho2⟩ (fun k h' ⟨o', a1, a2, a3⟩ => ⟨o', a1, a2, a3⟩) hr
    · cases e
  · split at e
    · rename_i l e1
      obtain ⟨xa, ws, lo, rfl, hws, g1, g2, nn, g3⟩ := c7 O G Rc hv e1
      have hne : xa ≠ I := by
        rintro rfl
        rw [hg] at g1
        cases g1
        rw [ho2] at g3
        cases g3
      have hr := ko hws e
      obtain rfl : ty = "list_iterator" := hty
      exact turn _ _ _ _ (Walks.list hh I xa hne ws.toArray) ⟨⟨o, hg, ho1, ho2⟩, ⟨lo, g1, g2, nn, g3⟩⟩ (fun k h' ⟨⟨o', a1, a2, a3⟩, _⟩ => ⟨o', a1, a2, a3⟩) hr
    · cases e
  · split at e
    · rename_i l e1
      obtain ⟨xa, ws, lo, rfl, hws, g1, g2, nn, g3⟩ := c7 O G Rc hv e1
      have hne : xa ≠ I := by
        rintro rfl
        rw [hg] at g1
        cases g1
        rw [ho2] at g3
        cases g3
      have hr := ko hws e
      obtain rfl : ty = "tuple_iterator" := hty
      exact turn _ _ _ _ (Walks.tuple hh I xa hne ws.toArray) ⟨⟨o, hg, ho1, ho2⟩, ⟨lo, g1, g2, nn, g3⟩⟩ (fun k h' ⟨⟨o', a1, a2, a3⟩, _⟩ => ⟨o', a1, a2, a3⟩) hr
    · cases e
  · cases e
theorem lY (O : TOk w.params K T) {Q : Value → Shared → Prop} {E : Value → Shared → Prop} (G : Glo K h₀) (R : Rl w.params h₀ L s.heap st ρ) {tp : Nat} {src : AV} {v : Value} (hv : src.Is ρ v) (e : eP T st.objs src = some tp)
    (h : ∀ h' I, Rl w.params h₀ L h' { st with objs := st.objs ++ [.iter tp src 0] } (ρ ++ [I]) → Q (.ref I) { s with heap := h' }) : wpAny (model prog w) A (pyIter v) Q E s := by
  have Rc := R
  obtain ⟨m, cs, R'⟩ := R
  have hlt : ∀ p ∈ cs.flatten, p.1 < s.heap.objs.size := fun p hp => Heap.lt_size (R'.nw p hp).1
  have mk : ∀ o ty, o.isFreed = false → o.cls = .type ty → rq tp ty → o.data = .fields #[v, .int 0 0] → Q (.ref s.heap.objs.size) { s with heap := s.heap.push o } := fun o ty hf h1 h2 h3 =>
    h _ _ ⟨m, _, R'.add1 (R'.fr.push o) (News.push R'.fr R'.nw o hf) hlt ⟨o, v, ty, hv.grow _, rfl, h1, h2, h3⟩⟩
  unfold eP at e
  split at e
  · rename_i x
    cases e
    obtain ⟨t, rfl⟩ := hv
    refine wpAny_pyIter_strU ?_
    refine mk _ (strIterType (txt x)) rfl rfl ?_ rfl
    unfold strIterType
    split
    · exact .inl rfl
    · exact .inr rfl
  · split at e
    · rename_i l e1
      cases e
      obtain ⟨xa, ws, lo, rfl, hws, g1, g2, nn, g3⟩ := c7 O G Rc hv e1
      exact wpAny_pyIter_list ⟨lo, g1, g2, nn, g3⟩ (mk _ "list_iterator" rfl rfl rfl rfl)
    · rename_i l e1
      cases e
      obtain ⟨xa, ws, lo, rfl, hws, g1, g2, nn, g3⟩ := c7 O G Rc hv e1
      exact wpAny_pyIter_tuple ⟨lo, g1, g2, nn, g3⟩ (mk _ "tuple_iterator" rfl rfl rfl rfl)
    · cases e
noncomputable def dD (T : Tabs) (j : Nat) (U : AV → TS) (Tb : TS) : Nat → TS
  | 0 => fun _ _ => False
  | n + 1 => fun st k => match st.objs[j]? with
    | some (.iter tp src i) => match cg T st.objs tp src i with
      | some (some a) => U a { st with objs := st.objs.set j (.iter tp src (i + 1)) } fun _ st1 => Tb st1 fun fl st2 => match fl with
        | .next => dD T j U Tb n st2 k
        | .cont => dD T j U Tb n st2 k
        | .brk => k .next st2
        | .ret v => k (.ret v) st2
      | some none => k .next { st with objs := st.objs.set j gone }
      | none => False
    | _ => False
noncomputable def mN (T : Tabs) (Ti : TE) (U : AV → TS) (Tb : TS) : TS := fun st k => Ti st fun a st1 => match eP T st1.objs a with
  | some tp => ∃ n, dD T st1.objs.length U Tb n { st1 with objs := st1.objs ++ [.iter tp a 0] } k
  | none => False
theorem cE {ρ : List Addr} (σ : List Addr) {n : Nat} {x : Addr} (h : ρ[n]? = some x) : (ρ ++ σ)[n]? = some x := by
  rw [List.getElem?_append_left (List.getElem?_eq_some_iff.mp h).1]; exact h
inductive Lv (w : World) (h₀ : Heap) (L : Addr) (s : Shared) (ρ : List Addr) (M : St → Prop) (s' : Shared) : Prop
  | mk (h' : Heap) (tk : Nat) (st' : St) (σ : List Addr) (e : s' = { s with heap := h', toks := tk }) (tp : Tk tk) (R : Rl w.params h₀ L h' st' (ρ ++ σ)) (kk : M st') : Lv w h₀ L s ρ M s'
theorem Lv.up {M : St → Prop} {s' : Shared} {σ : List Addr} {h' : Heap} {tk : Nat} (h : Lv w h₀ L { s with heap := h', toks := tk } (ρ ++ σ) M s') : Lv w h₀ L s ρ M s' := by
  obtain ⟨h2, tk2, st2, σ', e, tp, R, kk⟩ := h
  exact ⟨h2, tk2, st2, σ ++ σ', e, tp, by rw [← List.append_assoc]; exact R, kk⟩
inductive LoopI (T : Tabs) (j : Nat) (U : AV → TS) (Tb : TS) (n : Nat) (st : St) (k : AF → St → Prop) : Prop
  | turn (tp : Nat) (src : AV) (i : Nat) (a : AV) (hj : st.objs[j]? = some (.iter tp src i)) (he : cg T st.objs tp src i = some (some a))
      (kk : U a { st with objs := st.objs.set j (.iter tp src (i + 1)) } fun _ st1 => Tb st1 fun fl st2 => match fl with
        | .next => dD T j U Tb n st2 k
        | .cont => dD T j U Tb n st2 k
        | .brk => k .next st2
        | .ret v => k (.ret v) st2) : LoopI T j U Tb n st k
  | done (tp : Nat) (src : AV) (i : Nat) (hj : st.objs[j]? = some (.iter tp src i)) (he : cg T st.objs tp src i = some none) (kk : k .next { st with objs := st.objs.set j gone }) : LoopI T j U Tb n st k
theorem nT {j : Nat} {U : AV → TS} {Tb : TS} {n : Nat} {k : AF → St → Prop} (h : dD T j U Tb (n + 1) st k) : LoopI T j U Tb n st k := by
  unfold dD at h
  cases hj : st.objs[j]? with
  | none => rw [hj] at h; exact h.elim
  | some o =>
    rw [hj] at h
    cases o with
    | iter tp src i =>
      dsimp only at h
      cases he : cg T st.objs tp src i with
      | none => rw [he] at h; exact h.elim
      | some r =>
        rw [he] at h
        cases r with
        | none => exact .done tp src i hj he h
        | some a => exact .turn tp src i a hj he h
    | _ => exact h.elim
theorem qU (O : TOk w.params K T) {target iter : Expr} {body : List Stmt} {pos : Pos} {Ti : TE} {U : AV → TS} {Tb : TS} (hi : SE prog w K d q sc f cd en iter Ti) (hU : SA prog w K d q sc f cd en target U) (hb : SS prog w K d q sc f cd en body Tb)
    (hs : ∀ env x, foldedSetIterable iter env x = pure x) (hgo : ∀ it v, letOwnedTupleGo target it v = pure ()) : S1 prog w K d q sc f cd en (.For target iter body [] pos) (mN T Ti U Tb) := by
  refine ⟨?_⟩
  intro A L h₀ s _tp st ρ k C R H
  refine wpAny_For (sq (hi.run A L h₀ s inferInstance st ρ _ C R H) fun v h' tk _ a st1 σ R1 i1 k1 => ?_) (hs _)
  cases e : eP T st1.objs a with
  | none => rw [e] at k1; exact k1.elim
  | some tp =>
    rw [e] at k1
    obtain ⟨n, k1⟩ := k1
    refine lY (s := { s with heap := h', toks := tk }) O C.glo R1 i1 e fun h2 I R2 => ?_
    have hI : (ρ ++ σ ++ [I])[st1.objs.length]? = some I := by obtain ⟨m, cs, R1'⟩ := R1; exact ei R1'.len
    refine codeAny_forLoop_any (fun n' s' => Lv w h₀ L s (ρ ++ σ ++ [I]) (fun st => dD T st1.objs.length U Tb n' st k) s') ?_ n
      ⟨h2, tk, _, [], rfl, inferInstance, by rw [List.append_nil]; exact R2, k1⟩
    rintro n' s' ⟨h3, tk3, st3, σ3, rfl, tp3, R3, kk⟩
    cases n' with
    | zero => exact kk.elim
    | succ n' =>
      cases nT kk with
      | turn tp' src i a' hj ea kk =>
        refine jp (s := { s with heap := h3, toks := tk3 }) (gP (s := { s with heap := h3, toks := tk3 }) O C.hand C.glo R3 hj (cE σ3 hI) ea fun h4 tk4 v hv R4 tp4 => wpAny_of_eq (hgo _ _) ?_)
        refine sqU (s := { s with heap := h4, toks := tk4 }) inferInstance (hU A L h₀ { s with heap := h4, toks := tk4 } tp4 _ _ _ a' v C R4 hv kk) fun _ h5 tk5 tp5 b5 st5 σ5 R5 i5 k5 => ?_
        refine sqE (s := { s with heap := h5, toks := tk5 }) inferInstance (hb.run A L h₀ { s with heap := h5, toks := tk5 } tp5 _ _ _ C R5 k5) fun fl h6 tk6 tp6 b6 st6 σ6 R6 i6 k6 => ?_
        cases b6 with
        | next => obtain rfl : fl = .next := i6; exact ⟨n', Nat.lt_succ_self _, Lv.up (Lv.up ⟨h6, tk6, st6, σ6, rfl, tp6, R6, k6⟩)⟩
        | cont => obtain rfl : fl = .cont := i6; exact ⟨n', Nat.lt_succ_self _, Lv.up (Lv.up ⟨h6, tk6, st6, σ6, rfl, tp6, R6, k6⟩)⟩
        | brk => obtain rfl : fl = .brk := i6; exact Post.up (Post.up (Post.up (Post.up ⟨h6, tk6, .next, st6, σ6, rfl, R6, rfl, k6⟩)))
        | ret a6 => obtain ⟨v6, rfl, hv6⟩ := i6; exact Post.up (Post.up (Post.up (Post.up ⟨h6, tk6, .ret a6, st6, σ6, rfl, R6, ⟨v6, rfl, hv6⟩, k6⟩)))
      | done tp' src i hj ea kk =>
        exact gP (s := { s with heap := h3, toks := tk3 }) O C.hand C.glo R3 hj (cE σ3 hI) ea fun h4 tk4 R4 => wpAny_execs_nil (Post.up (Post.up ⟨h4, tk4, .next, _, σ3, rfl, R4, rfl, kk⟩))
noncomputable def dU (Tc : TB) (Tb : TS) : TS := fun st k => ∃ I : Nat → St → Prop, (∃ n, I n st) ∧ ∀ n st1, I n st1 → Tc st1 fun c st2 => bif c then Tb st2 fun fl st3 => match fl with
    | .next => ∃ m, m < n ∧ I m st3
    | .cont => ∃ m, m < n ∧ I m st3
    | .brk => k .next st3
    | .ret v => k (.ret v) st3
  else k .next st2
theorem jJ {test : Expr} {body : List Stmt} {pos : Pos} {Tc : TB} {Tb : TS} (hc : SB prog w K d q sc f cd en test Tc) (hb : SS prog w K d q sc f cd en body Tb) : S1 prog w K d q sc f cd en (.While test body [] pos) (dU Tc Tb) := by
  refine ⟨?_⟩
  intro A L h₀ s _tp st ρ k C R ⟨I, ⟨n, hI⟩, hstep⟩
  refine wpAny_While (codeAny_whileLoop (fun n' s' => Lv w h₀ L s ρ (I n') s') ?_ n ⟨s.heap, s.toks, st, [], rfl, inferInstance, by rw [List.append_nil]; exact R, hI⟩)
  rintro n' s' ⟨h3, tk3, st3, σ3, rfl, tp3, R3, kk⟩
  refine sqE (s := { s with heap := h3, toks := tk3 }) inferInstance (hc.run A L h₀ { s with heap := h3, toks := tk3 } tp3 _ _ _ C R3 (hstep n' st3 kk)) fun c h4 tk4 tp4 b4 st4 σ4 R4 i4 k4 => ?_
  obtain rfl : b4 = c := i4
  cases b4 with
  | false => exact wpAny_execs_nil (Post.up ⟨h4, tk4, .next, st4, σ4, rfl, R4, rfl, k4⟩)
  | true =>
    refine sqE (s := { s with heap := h4, toks := tk4 }) inferInstance (hb.run A L h₀ { s with heap := h4, toks := tk4 } tp4 _ _ _ C R4 k4) fun fl h6 tk6 tp6 b6 st6 σ6 R6 i6 k6 => ?_
    cases b6 with
    | next => obtain rfl : fl = .next := i6; exact let ⟨m, hm, hI'⟩ := k6; ⟨m, hm, Lv.up (Lv.up ⟨h6, tk6, st6, σ6, rfl, tp6, R6, hI'⟩)⟩
    | cont => obtain rfl : fl = .cont := i6; exact let ⟨m, hm, hI'⟩ := k6; ⟨m, hm, Lv.up (Lv.up ⟨h6, tk6, st6, σ6, rfl, tp6, R6, hI'⟩)⟩
    | brk => obtain rfl : fl = .brk := i6; exact Post.up (Post.up ⟨h6, tk6, .next, st6, σ6, rfl, R6, rfl, k6⟩)
    | ret a6 => obtain ⟨v6, rfl, hv6⟩ := i6; exact Post.up (Post.up ⟨h6, tk6, .ret a6, st6, σ6, rfl, R6, ⟨v6, rfl, hv6⟩, k6⟩)
end
noncomputable abbrev ce (csc : Scope) (C : Addr) (q : Str) (sc : Scope) (f : Addr) (cd : Value) : Addr → Env := fun L => compEnv csc C (envOf q sc L f cd)
section
variable {prog : Program} {w : World} {K : Frag} {d : Nat} {q : Str} {sc : Scope} {f : Addr} {cd : Value} {en : Addr → Env}
variable {A : Around} {L : Addr} {h₀ : Heap} {s : Shared} {st : St} {ρ : List Addr} {T : Tabs}
theorem pJ {Q : Value → Shared → Prop} {E : Value → Shared → Prop} (hh : A.handled = none) (R : Rl w.params h₀ L s.heap st ρ) {j tp i : Nat} {src : AV} {I : Addr} (hj : st.objs[j]? = some (.iter tp src i)) (hI : ρ[j]? = some I)
    (hsrc : tp = 0 → ∃ x, src = .str x) (href : tp ≠ 0 → ∀ v, src.Is ρ v → ∃ a, v = .ref a) (h : Q (.ref I) s) : wpAny (model prog w) A (pyIter (.ref I)) Q E s := by
  obtain ⟨m, cs, R'⟩ := R
  obtain ⟨x', c, hx', hc, o, v, ty, hv, rfl, ho1, hty, ho2⟩ := R'.ob.get hj
  obtain rfl : I = x' := Option.some.inj (hI.symm.trans hx')
  have hg := (R'.nw _ (bH hc (.head _))).1
  dsimp only at hg
  cases tp with
  | zero =>
    obtain ⟨x, rfl⟩ := hsrc rfl
    obtain ⟨t, rfl⟩ := hv
    rcases hty with rfl | rfl
    · exact wpAny_pyIter_striter_ascii ⟨o, hg, ho1, ho2⟩ h
    · exact wpAny_pyIter_striter_wide ⟨o, hg, ho1, ho2⟩ h
  | succ tp =>
    obtain ⟨a, rfl⟩ := href (Nat.succ_ne_zero _) v hv
    cases tp with
    | zero =>
      obtain rfl : ty = "list_iterator" := hty
      exact wpAny_pyIter_listiter ⟨o, hg, ho1, ho2⟩ h
    | succ tp =>
      obtain rfl : ty = "tuple_iterator" := hty
      exact wpAny_pyIter_tupleiter ⟨o, hg, ho1, ho2⟩ h
noncomputable def cN (C : Addr) (j n : Nat) : TE := fun st k => match st.objs[j]? with
  | some (.nsp C' vars) => C' = C ∧ match ag n vars with
    | some a => k a st
    | none => False
  | _ => False
theorem f6 {csc : Scope} {C : Addr} {j n : Nat} {x : Str} {pos : Pos} (hn : nm n = x) (hk : csc.kind = .function) (hl : csc.names.lookup x = some .local) (hd : (x == ("__debug__" : Str)) = false) :
    SE prog w K d q sc f cd (ce csc C q sc f cd) (.Name x pos) (cN C j n) := by
  refine ⟨?_⟩
  intro A L h₀ s _tp st ρ k Cx R H
  unfold cN at H
  split at H
  · rename_i C' vars hj
    obtain ⟨rfl, H⟩ := H
    cases e : ag n vars with
    | none => rw [e] at H; exact H.elim
    | some a =>
      rw [e] at H
      have Rc := R
      obtain ⟨m, cs, R'⟩ := R
      obtain ⟨x', c, hx', hc, rfl, o, m', rfl, hns, hlo⟩ := R'.ob.get hj
      obtain ⟨v, hv, ha⟩ := hlo n a e
      rw [hn] at hv
      exact wpAny_Name (wpAny_loadName_local (env := compEnv csc x' (envOf q sc L f cd)) hk hl (hns _ (R'.nw _ (bH hc (.head _))).1) hv (fin Rc ha H)) hd
  · exact H.elim
noncomputable def da (T : Tabs) (j D jc x : Nat) (Tt : TB) (Te : TE) : Nat → St → (St → Prop) → Prop
  | 0 => fun _ _ => False
  | n + 1 => fun st k => match st.objs[j]?, st.objs[jc]? with
    | some (.iter tp src i), some (.nsp C vars) => match cg T st.objs tp src i with
      | some (some a) => Tt { st with objs := (st.objs.set j (.iter tp src (i + 1))).set jc (.nsp C (put x a vars)) } fun ok st1 => bif ok then
          Te st1 fun b st2 => match st2.objs[D]? with
            | some (.list l) => bif Nat.ble l.length 100000 then da T j D jc x Tt Te n { st2 with objs := st2.objs.set D (.list (l ++ [b])) } k else False
            | _ => False
        else da T j D jc x Tt Te n st1 k
      | some none => k { st with objs := (st.objs.set j gone).set jc gone }
      | none => False
    | _, _ => False
noncomputable def dK (T : Tabs) (Ti : TE) (x : Nat) (Tt : Addr → Nat → TB) (Te : Addr → Nat → TE) : TE := fun st k => Ti st fun a st1 => match eP T st1.objs a with
  | some tp => ∃ n, ∀ C, da T st1.objs.length (st1.objs.length + 1) (st1.objs.length + 2) x (Tt C (st1.objs.length + 2)) (Te C (st1.objs.length + 2)) n
      { st1 with objs := st1.objs ++ [.iter tp a 0] ++ [.list []] ++ [.nsp C []] } fun st2 => k (.obj (st1.objs.length + 1)) st2
  | none => False
noncomputable def ja (prog : Program) (w : World) (K : Frag) (d : Nat) (q : Str) (sc : Scope) (f : Addr) (cd : Value) (en : Addr → Env) (ifs : List Expr) (Tt : TB) : Prop :=
  Sd prog w K d q sc f cd en pj (fun env => forIn ifs true fun c r => if r = true then do let ok ← isTrue c env (eval c env); pure (ForInStep.yield ok) else pure (ForInStep.yield r)) Tt
theorem gQ : ja prog w K d q sc f cd en [] (aB true) := by
  refine ⟨?_⟩
  intro A L h₀ s _tp st ρ k C R H
  exact wpAny_tests_nil (fin (b := true) R rfl H)
theorem pK {c : Expr} {Tt : TB} (h : SB prog w K d q sc f cd en c Tt) : ja prog w K d q sc f cd en [c] Tt := by
  refine ⟨?_⟩
  intro A L h₀ s _tp st ρ k C R H
  exact wpAny_tests_one (h.run A L h₀ s inferInstance st ρ k C R H)
inductive NAt (h : Heap) (ρ : List Addr) (cs : List (List (Addr × Obj))) (i : Nat) (x C : Addr) (vars : List (Nat × AV)) : Prop
  | mk (e : C = x) (o : Obj) (m : Str → Option Value) (hc : cs[i]? = some [(x, o)]) (hn : h.Ns x m) (hl : Locs ρ m vars) : NAt h ρ cs i x C vars
theorem Rel.nspAt {P : Params} {h : Heap} {m : Str → Option Value} {cs : List (List (Addr × Obj))} (R : Rel P h₀ L h st ρ m cs) {i : Nat} {x C : Addr} {vars : List (Nat × AV)} (hi : st.objs[i]? = some (.nsp C vars)) (hx : ρ[i]? = some x) : NAt h ρ cs i x C vars := by
  obtain ⟨xc, cc, hxc, hcc, rfl, oc, mc, rfl, hnsc, hloc⟩ := R.ob.get hi
  obtain rfl : x = xc := Option.some.inj (hx.symm.trans hxc)
  exact ⟨rfl, oc, mc, hcc, hnsc _ (R.nw _ (bH hcc (.head _))).1, hloc⟩
inductive CompI (T : Tabs) (j D jc x : Nat) (Tt : TB) (Te : TE) (n : Nat) (st : St) (k : St → Prop) : Prop
  | turn (tp : Nat) (src : AV) (i : Nat) (C : Addr) (vars : List (Nat × AV)) (a : AV) (hj : st.objs[j]? = some (.iter tp src i)) (hc : st.objs[jc]? = some (.nsp C vars)) (he : cg T st.objs tp src i = some (some a))
      (kk : Tt { st with objs := (st.objs.set j (.iter tp src (i + 1))).set jc (.nsp C (put x a vars)) } fun ok st1 => bif ok then Te st1 fun b st2 => match st2.objs[D]? with
            | some (.list l) => bif Nat.ble l.length 100000 then da T j D jc x Tt Te n { st2 with objs := st2.objs.set D (.list (l ++ [b])) } k else False
            | _ => False
        else da T j D jc x Tt Te n st1 k) : CompI T j D jc x Tt Te n st k
  | done (tp : Nat) (src : AV) (i : Nat) (C : Addr) (vars : List (Nat × AV)) (hj : st.objs[j]? = some (.iter tp src i)) (hc : st.objs[jc]? = some (.nsp C vars)) (he : cg T st.objs tp src i = some none) (kk : k { st with objs := (st.objs.set j gone).set jc gone }) : CompI T j D jc x Tt Te n st k
theorem nU {j D jc x : Nat} {Tt : TB} {Te : TE} {n : Nat} {k : St → Prop} (h : da T j D jc x Tt Te (n + 1) st k) : CompI T j D jc x Tt Te n st k := by
  unfold da at h
  cases hj : st.objs[j]? with
  | none => rw [hj] at h; exact h.elim
  | some o =>
    cases hc : st.objs[jc]? with
    | none => rw [hj, hc] at h; cases o <;> exact h.elim
    | some o2 =>
      rw [hj, hc] at h
      cases o with
      | iter tp src i =>
        cases o2 with
        | nsp C vars =>
          dsimp only at h
          cases he : cg T st.objs tp src i with
          | none => rw [he] at h; exact h.elim
          | some r =>
            rw [he] at h
            cases r with
            | none => exact .done tp src i C vars hj hc he h
            | some a => exact .turn tp src i C vars a hj hc he h
        | _ => exact h.elim
      | _ => exact h.elim
theorem nV {D : Addr} {jD : Nat} {b : AV} {y : Value} {M : St → Prop} {E : Value → Shared → Prop} {Q : Shared → Prop} (R : Rl w.params h₀ L s.heap st ρ) (hD : ρ[jD]? = some D) (hb : b.Is ρ y) (tp : Tk s.toks)
    (hk : match st.objs[jD]? with
      | some (.list l) => bif Nat.ble l.length 100000 then M { st with objs := st.objs.set jD (.list (l ++ [b])) } else False
      | _ => False) (hQ : ∀ s', Lv w h₀ L s ρ M s' → Q s') : wpAny (model prog w) A (call (.builtin "list.append") [.ref D, y]) (fun _ s' => Q s') E s := by
  cases hl : st.objs[jD]? with
  | none => rw [hl] at hk; exact hk.elim
  | some o =>
    rw [hl] at hk
    cases o with
    | list l =>
      dsimp only at hk
      cases hb9 : Nat.ble l.length 100000 with
      | false => rw [hb9] at hk; exact hk.elim
      | true =>
        rw [hb9] at hk
        obtain ⟨m, cs, R⟩ := R
        obtain ⟨ws, n, hc, hv, hg⟩ := R.listAt hl hD
        refine append_at hg (fun hA hsA hoA => hQ _ ⟨hA, s.toks, _, [], rfl, tp, by rw [List.append_nil]; exact ⟨m, _, R.upd hc hD hsA hoA (ao := .list (l ++ [b])) ⟨ws ++ [y], n + 1, hv.snoc hb, by rw [List.push_toArray]⟩⟩, hk⟩) ?_
        rw [List.size_toArray, hv.len]; exact Nat.le_trans (Nat.le_of_ble_eq_true hb9) (by decide)
    | _ => exact hk.elim
theorem compLoop (O : TOk w.params K T) {elt iter : Expr} {n : Nat} {px pos : Pos} {ifs : List Expr} {csc : Scope} {Tt : TB} {Te : TE} {CC : Addr} (hkind : csc.kind = .function) (hx : csc.names.lookup (nm n) = some .local)
    (ht : ja prog w K d q sc f cd (ce csc CC q sc f cd) ifs Tt) (he : SE prog w K d q sc f cd (ce csc CC q sc f cd) elt Te) (C : Cx K d A q sc L f cd h₀) {j jD jc : Nat} (hjc : j ≠ jc) {I D : Addr} (hI : ρ[j]? = some I) (hD : ρ[jD]? = some D) (hC : ρ[jc]? = some CC)
    {k : St → Prop} {RR : Result → Shared → Prop} (hR : ∀ h6 tk6 st6 σ6 m6 cs6 vars, Rel w.params h₀ L h6 st6 (ρ ++ σ6) m6 cs6 → st6.objs[jc]? = some (.nsp CC vars) → k { st6 with objs := st6.objs.set jc gone } → RR (.ok .next) { s with heap := h6, toks := tk6 })
    (nn : Nat) {s' : Shared} (h : Lv w h₀ L s ρ (fun st => da T j jD jc n Tt Te nn st k) s') :
    codeAny (model prog w) A (.compLoop (.ListComp elt [⟨.Name (nm n) px, iter, ifs, 0⟩] csc pos) 0 (.ref I) (.ref D) (compEnv csc CC (envOf q sc L f cd))) RR s' := by
  refine codeAny_compLoop_tests (fun n' s' => Lv w h₀ L s ρ (fun st => da T j jD jc n Tt Te n' st k) s') ?_ nn h
  rintro n' s' ⟨h5, tk5, st5, σ5, rfl, tp5, R5, kk⟩
  cases n' with
  | zero => exact kk.elim
  | succ n' =>
    have hI := cE σ5 hI
    have hC := cE σ5 hC
    have hD := cE σ5 hD
    cases nU kk with
    | turn tp src i C' vars a hj hjc5 ea kk =>
      refine jp (s := { s with heap := h5, toks := tk5 }) (gP (s := { s with heap := h5, toks := tk5 }) O C.hand C.glo R5 hj hI ea fun h6 tk6 v hv R6 tp6 => ?_)
      obtain ⟨m6, cs6, R6⟩ := R6
      obtain ⟨rfl, oc, mc, hcc, hns, hloc⟩ := R6.nspAt ((List.getElem?_set_ne hjc).trans hjc5) hC
      refine wpAny_assign_Name (wpAny_storeName_local (env := compEnv csc C' (envOf q sc L f cd)) hx hns (fun h7 hn7 hs7 => ?_) (by show ((csc.kind == .class) || (csc.kind == .module && _)) = false; rw [hkind]; rfl))
      obtain ⟨o7, es7, ep7, ho7, r7⟩ := hn7
      have R7 := R6.updE hcc hC (fun b ob hb e => hs7.extBut b ob hb e) ho7 (ao := .nsp C' (put n a vars)) ⟨rfl, o7, _, rfl, fun hh e => ⟨o7, es7, ep7, e, r7⟩, Locs.put hloc hv⟩
      refine sqE (s := { s with heap := h7, toks := tk6 + 1 }) inferInstance (ht.run A L h₀ { s with heap := h7, toks := tk6 + 1 } inferInstance _ _ _ C ⟨_, _, R7⟩ kk) fun ok h8 tk8 tp8 b8 st8 σ8 R8 i8 k8 => ?_
      obtain rfl : b8 = ok := i8
      cases b8 with
      | false => exact ⟨n', Nat.lt_succ_self _, Lv.up ⟨h8, tk8, st8, σ8, rfl, tp8, R8, k8⟩⟩
      | true =>
        refine sqE (s := { s with heap := h8, toks := tk8 }) inferInstance (he.run A L h₀ { s with heap := h8, toks := tk8 } tp8 _ _ _ C R8 k8) fun y h9 tk9 tp9 b9 st9 σ9 R9 i9 k9 => ?_
        exact nV (s := { s with heap := h9, toks := tk9 }) (M := fun st => da T j jD jc n Tt Te n' st k) (Q := fun s5 => ∃ m, m < n' + 1 ∧ Lv w h₀ L s ρ (fun st => da T j jD jc n Tt Te m st k) s5) R9 (cE σ9 (cE σ8 hD)) i9 tp9 k9 fun s' q => ⟨n', Nat.lt_succ_self _, Lv.up (Lv.up (Lv.up q))⟩
    | done tp src i C' vars hj hjc5 ea kk =>
      refine gP (s := { s with heap := h5, toks := tk5 }) O C.hand C.glo R5 hj hI ea fun h6 tk6 R6 => ?_
      obtain ⟨m6, cs6, R6⟩ := R6
      have hn : (st5.objs.set j gone)[jc]? = _ := (List.getElem?_set_ne hjc).trans hjc5
      obtain ⟨rfl, _⟩ := R6.nspAt hn hC
      exact hR h6 tk6 _ σ5 m6 cs6 _ R6 hn kk
theorem Rel.nsp {P : Params} {h3 h4 : Heap} {m : Str → Option Value} {cs : List (List (Addr × Obj))} (R3 : Rel P h₀ L h3 st ρ m cs) (hk : ∀ b o, h3.get? b = some o → h4.get? b = some o) (hns : h4.Ns h3.objs.size (fun y => ([] : List (Str × Value)).reverse.lookup y)) :
    ∃ oC, Rel P h₀ L h4 { st with objs := st.objs ++ [.nsp h3.objs.size []] } (ρ ++ [h3.objs.size]) m (cs ++ [[(h3.objs.size, oC)]]) := by
  obtain ⟨o, es, ep, e1, r⟩ := hns
  refine ⟨o, (R3.ext hk).add1 (ao := .nsp h3.objs.size []) (R3.ext hk).fr (fun p hp => ?_) (fun p hp => Heap.lt_size (R3.nw p hp).1) ⟨rfl, o, _, rfl, fun hh e2 => ⟨o, es, ep, e2, r⟩, fun n v e => by cases e⟩⟩
  rcases List.mem_cons.mp hp with rfl | hp
  · refine ⟨e1, (Nat.ne_of_lt R3.fr.ns.lt).symm, ?_⟩
    cases e : h₀.get? h3.objs.size with
    | none => rfl
    | some o => exact absurd (Heap.lt_size (R3.fr.keep _ _ e)) (Nat.lt_irrefl _)
  · exact (R3.ext hk).nw p hp
theorem nW {os : List AO} {a : AV} {tp : Nat} (e : eP T os a = some tp) : (tp = 0 → ∃ x, a = .str x) ∧ (tp ≠ 0 → ∀ σ' v, a.Is σ' v → ∃ b, v = .ref b) := by
  have h2 : ∀ o : Option (Bool × List AV), (match o with | some (false, _) => some 1 | some (true, _) => some 2 | none => none) = some tp → tp ≠ 0 := fun o h => by
    cases o with
    | none => cases h
    | some p => obtain ⟨b, l⟩ := p; cases b <;> cases h <;> exact Nat.succ_ne_zero _
  cases a with
  | str x => cases e; exact ⟨fun _ => ⟨_, rfl⟩, fun h => absurd rfl h⟩
  | obj i => exact ⟨fun h => absurd h (h2 _ e), fun _ σ' v hv => let ⟨y, _, hy⟩ := hv; ⟨y, hy⟩⟩
  | glob u =>
    refine ⟨fun h => absurd h (h2 _ e), fun _ σ' v hv => ?_⟩
    obtain rfl := hv
    cases v with
    | ref y => exact ⟨y, rfl⟩
    | _ => cases e
  | _ => cases e
theorem kq (O : TOk w.params K T) {elt iter : Expr} {n : Nat} {px pos : Pos} {ifs : List Expr} {csc : Scope} {Tt : Addr → Nat → TB} {Te : Addr → Nat → TE}
    (hcell : ∀ y ∈ csc.names, y.2 ≠ .cell) (hkind : csc.kind = .function) (hx : csc.names.lookup (nm n) = some .local)
    (ht : ∀ C j, ja prog w K d q sc f cd (ce csc C q sc f cd) ifs (Tt C j)) (he : ∀ C j, SE prog w K d q sc f cd (ce csc C q sc f cd) elt (Te C j))
    {A : Around} {L : Addr} {h₀ : Heap} {s : Shared} {ρ σ : List Addr} {h' : Heap} {tk : Nat} {v : Value} {a : AV} {st1 : St} {k : AV → St → Prop} {RR : Value → Env → Result → Shared → Prop} (tp0 : Tk tk) (C : Cx K d A q sc L f cd h₀) (R1 : Rl w.params h₀ L h' st1 (ρ ++ σ)) (i1 : IsV (ρ ++ σ) a v)
    (k1 : match eP T st1.objs a with
      | some tp => ∃ n', ∀ C, da T st1.objs.length (st1.objs.length + 1) (st1.objs.length + 2) n (Tt C (st1.objs.length + 2)) (Te C (st1.objs.length + 2)) n'
          { st1 with objs := st1.objs ++ [.iter tp a 0] ++ [.list []] ++ [.nsp C []] } fun st2 => k (.obj (st1.objs.length + 1)) st2
      | none => False)
    (hR : ∀ (D CC : Addr) (h6 : Heap) (tk6 : Nat) (st6 : St) (σ6 : List Addr) (m6 : Str → Option Value) (cs6 : List (List (Addr × Obj))) (vars : List (Nat × AV)), Rel w.params h₀ L h6 st6 (ρ ++ σ ++ σ6) m6 cs6 → st6.objs[st1.objs.length + 2]? = some (.nsp CC vars) →
      (ρ ++ σ ++ σ6)[st1.objs.length + 2]? = some CC → (ρ ++ σ ++ σ6)[st1.objs.length + 1]? = some D → k (.obj (st1.objs.length + 1)) { st6 with objs := st6.objs.set (st1.objs.length + 2) gone } →
      RR (.ref D) (compEnv csc CC (envOf q sc L f cd)) (.ok .next) { s with heap := h6, toks := tk6 }) :
    wpAny (model prog w) A (pyIter v) (fun it s₂ => wpAny (model prog w) A (newList []) (fun acc s₃ => wpAny (model prog w) A (newFunctionEnv csc (envOf q sc L f cd).globals [] [] (envOf q sc L f cd).qual none .none (some (envOf q sc L f cd))) (fun cenv s₄ =>
      codeAny (model prog w) A (.compStart (.ListComp elt [⟨.Name (nm n) px, iter, ifs, 0⟩] csc pos) 0 it acc { cenv with scope := csc }) (RR acc { cenv with scope := csc }) s₄) No s₃) No s₂) No { s with heap := h', toks := tk } := by
  cases e : eP T st1.objs a with
  | none => rw [e] at k1; exact k1.elim
  | some tp =>
    rw [e] at k1
    obtain ⟨nn, k1⟩ := k1
    obtain ⟨hsrc, href⟩ := nW e
    have hlen1 : (ρ ++ σ).length = st1.objs.length := by obtain ⟨m1, cs1, R1'⟩ := R1; exact R1'.len
    refine lY (s := { s with heap := h', toks := tk }) O C.glo R1 i1 e fun h2 I R2 => ?_
    obtain ⟨m2, cs2, R2⟩ := R2
    refine newList_N (s := { s with heap := h2, toks := tk }) R2.fr R2.nw (fun h3 F3 N3 => ?_) (by decide)
    have R3 := R2.add1 (ao := .list []) F3 N3 (fun p hp => Heap.lt_size (R2.nw p hp).1) ⟨[], 0, rfl, rfl⟩
    generalize h2.objs.size = D at R3
    refine wpAny_newFunctionEnv hcell (by intro y hy; cases hy) (fun h4 hns hsb => ?_) hkind
    obtain ⟨oC, R4⟩ := R3.nsp (h4 := h4) (fun b o e => hsb.extBut b o (Nat.ne_of_lt (Heap.lt_size e)) (Heap.get?_push_of_some _ e)) hns
    dsimp only at hns hsb ⊢
    generalize h3.objs.size = CC at R4
    have hI : (ρ ++ σ ++ [I] ++ [D] ++ [CC])[st1.objs.length]? = some I := cE _ (cE _ (ei hlen1))
    have hDD : (ρ ++ σ ++ [I] ++ [D] ++ [CC])[st1.objs.length + 1]? = some D := cE _ (ei (by rw [List.length_append, hlen1]; rfl))
    have hCC : (ρ ++ σ ++ [I] ++ [D] ++ [CC])[st1.objs.length + 2]? = some CC := ei (by rw [List.length_append, List.length_append, hlen1]; rfl)
    have ea : ∀ σ6, ρ ++ σ ++ [I] ++ [D] ++ [CC] ++ σ6 = ρ ++ σ ++ ([I] ++ [D] ++ [CC] ++ σ6) := fun σ6 => by rw [List.append_assoc, List.append_assoc, List.append_assoc, List.append_assoc, List.append_assoc]; rfl
    have loop := fun tk4 (tp4 : Tk tk4) => compLoop (s := s) (iter := iter) (px := px) (pos := pos) (RR := RR (.ref D) (compEnv csc CC (envOf q sc L f cd))) (k := fun st2 => k (.obj (st1.objs.length + 1)) st2) O hkind hx (ht CC (st1.objs.length + 2)) (he CC (st1.objs.length + 2)) C (Nat.ne_of_lt (Nat.lt_add_of_pos_right (by decide))) hI hDD hCC
      (fun h6 tk6 st6 σ6 m6 cs6 vars R6 hj hk => hR D CC h6 tk6 st6 ([I] ++ [D] ++ [CC] ++ σ6) m6 cs6 vars (ea σ6 ▸ R6) hj (ea σ6 ▸ cE σ6 hCC) (ea σ6 ▸ cE σ6 hDD) hk) nn (s' := { s with heap := h4, toks := tk4 }) ⟨h4, tk4, _, [], rfl, tp4, by rw [List.append_nil]; exact ⟨_, _, R4⟩, k1 CC⟩
    refine codeAny_compStart_list (loop _ inferInstance) (pJ (s := { s with heap := h4, toks := _ }) C.hand ⟨_, _, R4⟩ (j := st1.objs.length) (tp := tp) (src := a) (i := 0) ?_ hI hsrc (fun h0 v hv => href h0 _ v hv) (loop _ inferInstance))
    simp only
    rw [List.append_assoc, List.append_assoc, List.getElem?_append_right (Nat.le_refl _)]
    simp
theorem lZ (O : TOk w.params K T) {elt iter : Expr} {x : Str} {n : Nat} {px pos : Pos} {ifs : List Expr} {csc : Scope} {Ti : TE} {Tt : Addr → Nat → TB} {Te : Addr → Nat → TE} (hn : nm n = x)
    (hfree : ∀ y ∈ csc.names, y.2 ≠ .free) (hcell : ∀ y ∈ csc.names, y.2 ≠ .cell) (hkind : csc.kind = .function) (hnames : ∀ y ∈ csc.names, y.2 = .local → csc.names.lookup y.1 = some .local) (hx : csc.names.lookup x = some .local)
    (hi : SE prog w K d q sc f cd (fl q sc f cd) iter Ti) (ht : ∀ C j, ja prog w K d q sc f cd (ce csc C q sc f cd) ifs (Tt C j)) (he : ∀ C j, SE prog w K d q sc f cd (ce csc C q sc f cd) elt (Te C j))
    (hs : ∀ env x, foldedSetIterable iter env x = pure x) : SE prog w K d q sc f cd (fl q sc f cd) (.ListComp elt [⟨.Name x px, iter, ifs, 0⟩] csc pos) (dK T Ti n Tt Te) := by
  refine ⟨?_⟩
  intro A L h₀ s _tp st ρ k C R H
  subst hn
  refine wpAny_ListComp hfree hkind hnames (sq (hi.run A L h₀ s inferInstance st ρ _ C R H) fun v h' tk tp0 a st1 σ R1 i1 k1 => ?_) (hs _)
  refine kq (RR := fun acc cenv r s' => ∃ m, s'.heap.Ns cenv.locals m ∧ ∀ h', Heap.SameBut cenv.locals s'.heap h' → match r with
      | .ok _ => Post w h₀ L IsV s ρ k acc { s' with heap := h' }
      | .error x => wpAny (model prog w) A (passOn "comprehension.variables-let-go" x cenv) (Post w h₀ L IsV s ρ k) No { s' with heap := h' }) O hcell hkind hx ht he tp0 C R1 i1 k1 fun D CC h6 tk6 st6 σ6 m6 cs6 vars R6 hjc hC6 hD6 kk => ?_
  obtain ⟨xc, cc, hxc, hcc, rfl, oc, mc, rfl, hnsc, hloc⟩ := R6.ob.get hjc
  refine ⟨mc, hnsc _ (R6.nw _ (bH hcc (.head _))).1, fun hz hsz => ?_⟩
  have R7 := R6.drop hcc hC6 (fun b ob hb e => hsz.extBut b ob hb e)
  exact ⟨hz, tk6, .obj (st1.objs.length + 1), _, σ ++ σ6, rfl, by rw [← List.append_assoc]; exact ⟨m6, _, R7⟩, ⟨D, by rw [← List.append_assoc]; exact hD6, rfl⟩, kk⟩
theorem nX (O : TOk w.params K T) {elt iter : Expr} {x y : Str} {n ny : Nat} {px py pos spos : Pos} {ifs : List Expr} {csc : Scope} {Ti : TE} {Tt : Addr → Nat → TB} {Te : Addr → Nat → TE} (hny : nm ny = y) (hly : sc.names.lookup y = some .local) (hn : nm n = x)
    (hfree : ∀ y ∈ csc.names, y.2 ≠ .free) (hcell : ∀ y ∈ csc.names, y.2 ≠ .cell) (hkind : csc.kind = .function) (hnames : ∀ y ∈ csc.names, y.2 = .local → csc.names.lookup y.1 = some .local) (hx : csc.names.lookup x = some .local)
    (hi : SE prog w K d q sc f cd (fl q sc f cd) iter Ti) (ht : ∀ C j, ja prog w K d q sc f cd (ce csc C q sc f cd) ifs (Tt C j)) (he : ∀ C j, SE prog w K d q sc f cd (ce csc C q sc f cd) elt (Te C j))
    (hs : ∀ env x, foldedSetIterable iter env x = pure x) (hsw : ∀ L, swapsWith (.ListComp elt [⟨.Name x px, iter, ifs, 0⟩] csc pos) (some (.Name y py)) spos.line (envOf q sc L f cd) = pure true) :
    S1 prog w K d q sc f cd (fl q sc f cd) (.Assign [.Name y py] (.ListComp elt [⟨.Name x px, iter, ifs, 0⟩] csc pos) spos) (aR ny (dK T Ti n Tt Te)) := by
  refine ⟨?_⟩
  intro A L h₀ s _tp st ρ k C R H
  subst hn
  show wpAny _ _ (exec (.Assign [.Name y py] (.ListComp elt [⟨.Name (nm n) px, iter, ifs, 0⟩] csc pos) spos) (envOf q sc L f cd)) _ _ _
  rw [exec_Assign_Name_used _ _ _ _ (hsw L)]
  refine wpAny_bind (wpAny_standAt (wpAny_bind ?_))
  show wpAny _ A (do let _ ← comprehension (.ListComp elt [⟨.Name (nm n) px, iter, ifs, 0⟩] csc pos) csc (envOf q sc L f cd) _ (newList []) false (eval iter (envOf q sc L f cd)) (some (assign (.Name y py) (envOf q sc L f cd)))) _ _ s
  refine wpAny_bind (wpAny_mono (wpAny_comprehension_use (Q := fun _ s' => Post w h₀ L IsF s ρ k .next s') rfl (hs _) hfree hkind hnames (sq (hi.run A L h₀ s inferInstance st ρ _ C R H) fun v h' tk tp0 a st1 σ R1 i1 k1 => ?_)) (fun _ s' hq => wpAny_pure (wpAny_pure hq)) fun _ _ e => e)
  refine kq (k := fun a st' => k .next { st' with loc := put ny a st'.loc }) (RR := fun acc cenv r s' => match r with
      | .ok _ => wpAny (model prog w) A (assign (.Name y py) (envOf q sc L f cd) acc) (fun _ s'' => ∃ m, s''.heap.Ns cenv.locals m ∧ ∀ h', Heap.SameBut cenv.locals s''.heap h' → Post w h₀ L IsF s ρ k .next { s'' with heap := h' }) No s'
      | .error x => ∃ m, s'.heap.Ns cenv.locals m ∧ ∀ h', Heap.SameBut cenv.locals s'.heap h' → wpAny (model prog w) A (passOn "comprehension.variables-let-go" x cenv) (fun _ s' => Post w h₀ L IsF s ρ k .next s') No { s' with heap := h' }) O hcell hkind hx ht he tp0 C R1 i1 k1 fun D CC h6 tk6 st6 σ6 m6 cs6 vars R6 hjc hC6 hD6 kk => ?_
  refine wpAny_assign_Name (wpAny_mono (lJ (s := { s with heap := h6, toks := tk6 }) (st := st6) (k := fun _ st' => st' = { st6 with loc := put ny (.obj (st1.objs.length + 1)) st6.loc }) C ⟨m6, cs6, R6⟩ hny hly (a := .obj (st1.objs.length + 1)) ⟨D, hD6, rfl⟩ rfl) (fun _ s2 pp => ?_) fun _ _ x => x)
  obtain ⟨h7, tk7, b7, st7, σ7, rfl, ⟨m7, cs7, R7⟩, _, rfl⟩ := pp
  obtain ⟨xc, cc, hxc, hcc, rfl, oc, mc, rfl, hnsc, hloc⟩ := R7.ob.get (i := st1.objs.length + 2) hjc
  have hC7 : (ρ ++ σ ++ σ6 ++ σ7)[st1.objs.length + 2]? = some xc := by rw [List.getElem?_append_left ((List.getElem?_eq_some_iff.mp hC6).1)]; exact hC6
  refine ⟨mc, hnsc _ (R7.nw _ (bH hcc (.head _))).1, fun hz hsz => ?_⟩
  have R8 := R7.drop hcc hC7 (fun b ob hb e => hsz.extBut b ob hb e)
  exact ⟨hz, tk7, .next, _, σ ++ σ6 ++ σ7, rfl, by rw [show ρ ++ (σ ++ σ6 ++ σ7) = ρ ++ σ ++ σ6 ++ σ7 by simp]; exact ⟨m7, _, R8⟩, rfl, kk⟩
end
section
variable {prog : Program} {w : World} {K : Frag} {d : Nat} {q : Str} {sc : Scope} {f : Addr} {cd : Value} {en : Addr → Env}
variable {A : Around} {L : Addr} {h₀ : Heap} {s : Shared} {st : St} {ρ : List Addr} {T : Tabs}
noncomputable def qh {β : Type} : St → (β → St → Prop) → Prop := fun _ _ => False
theorem rF {α β : Type} {I : List Addr → β → α → Prop} {t : Env → Sem α} : Sd prog w K d q sc f cd en I t qh := ⟨fun _ _ _ _ _ _ _ _ _ _ H => H.elim⟩
noncomputable def dE (To : TE) : TE := fun st k => To st fun a st1 => match a with
  | .int i => k (.int (-i)) st1
  | _ => False
theorem kr {e : Expr} {pos : Pos} {To : TE} (he : SE prog w K d q sc f cd en e To) : SE prog w K d q sc f cd en (.UnaryOp .USub e pos) (dE To) := by
  refine ⟨?_⟩
  intro A L h₀ s _tp st ρ k C R H
  refine UnaryOp_ (sq (he.run A L h₀ s inferInstance st ρ _ C R H) fun v h' tk _ a st1 σ R1 i1 k1 => ?_)
  split at k1
  · obtain ⟨t, rfl⟩ := i1
    rename_i i
    exact PySem.P.neg_int ⟨h', tk + 1, .int (-i), st1, σ, rfl, R1, ⟨_, rfl⟩, k1⟩
  · exact k1.elim
theorem aH {x : Str} (hk : sc.kind = .function) (hx : sc.names.lookup x = some .globalImplicit) : GE (fl q sc f cd) x := ⟨fun _ => rfl, fun _ => rfl, fun _ => hk, fun _ => hx⟩
theorem jb {csc : Scope} {C : Addr} {x : Str} (hk : csc.kind = .function) (hx : csc.names.lookup x = some .globalImplicit) : GE (ce csc C q sc f cd) x := ⟨fun _ => rfl, fun _ => rfl, fun _ => hk, fun _ => hx⟩
noncomputable def dL (j : Nat) (U : AV → TS) (Tb : TS) : Nat → TS
  | 0 => fun _ _ => False
  | n + 1 => fun st k => match st.objs[j]? with
    | some (.riter i m) => bif Nat.blt i m then U (.int i) { st with objs := st.objs.set j (.riter (i + 1) m) } fun _ st1 => Tb st1 fun fl st2 => match fl with
        | .next => dL j U Tb n st2 k
        | .cont => dL j U Tb n st2 k
        | .brk => k .next st2
        | .ret v => k (.ret v) st2
      else k .next { st with objs := st.objs.set j gone }
    | _ => False
noncomputable def l0 (Te : TE) (U : AV → TS) (Tb : TS) : TS := fun st k => Te st fun a st1 => match a with
  | .int m => 0 ≤ m ∧ m < 1000000 ∧ dL st1.objs.length U Tb (m.toNat + 1) { st1 with objs := st1.objs ++ [.riter 0 m.toNat] } k
  | _ => False
inductive RLoopI (j : Nat) (U : AV → TS) (Tb : TS) (n : Nat) (st : St) (k : AF → St → Prop) : Prop
  | turn (i m : Nat) (hj : st.objs[j]? = some (.riter i m)) (hlt : i < m) (kk : U (.int i) { st with objs := st.objs.set j (.riter (i + 1) m) } fun _ st1 => Tb st1 fun fl st2 => match fl with
        | .next => dL j U Tb n st2 k
        | .cont => dL j U Tb n st2 k
        | .brk => k .next st2
        | .ret v => k (.ret v) st2) : RLoopI j U Tb n st k
  | done (i m : Nat) (hj : st.objs[j]? = some (.riter i m)) (hge : ¬ i < m) (kk : k .next { st with objs := st.objs.set j gone }) : RLoopI j U Tb n st k
theorem mO {j : Nat} {U : AV → TS} {Tb : TS} {n : Nat} {k : AF → St → Prop} (h : dL j U Tb (n + 1) st k) : RLoopI j U Tb n st k := by
  unfold dL at h
  cases hj : st.objs[j]? with
  | none => rw [hj] at h; exact h.elim
  | some o =>
    rw [hj] at h
    cases o with
    | riter i m =>
      dsimp only at h
      cases eb : Nat.blt i m with
      | true => rw [eb] at h; exact .turn i m hj (Nat.le_of_ble_eq_true eb) h
      | false => rw [eb] at h; exact .done i m hj (fun q => by rw [show Nat.blt i m = true from Nat.ble_eq_true_of_le q] at eb; cases eb) h
    | _ => exact h.elim
theorem kt {Q : Option Value → Shared → Prop} {E : Value → Shared → Prop} (hh : A.handled = none) (R : Rl w.params h₀ L s.heap st ρ) {j i mm : Nat} {I : Addr} (hj : st.objs[j]? = some (.riter i mm)) (hI : ρ[j]? = some I)
    (h1 : i < mm → ∀ h' tk v, (AV.int i).Is ρ v → Rl w.params h₀ L h' { st with objs := st.objs.set j (.riter (i + 1) mm) } ρ → Q (some v) { s with heap := h', toks := tk })
    (h2 : i = mm → ∀ h' tk, Rl w.params h₀ L h' { st with objs := st.objs.set j gone } ρ → Q none { s with heap := h', toks := tk }) : wpAny (model prog w) A (pyNext (.ref I)) Q E s := by
  obtain ⟨m4, cs4, R4⟩ := R
  obtain ⟨x', c, hx', hcc, hle, rfl⟩ := R4.ob.get hj
  obtain rfl : I = x' := Option.some.inj (hI.symm.trans hx')
  have hg := (R4.nw _ (bH hcc (.head _))).1
  have W := Walks.range (prog := prog) (w := w) hh I 0 1 mm
  have e1 : ∀ n : Nat, (0 : Int) + (n : Nat) * 1 = n := fun n => by rw [Int.zero_add, Int.mul_one]
  have hSt : IsRangeIter s.heap I (0 + (i : Nat) * 1) ((mm : Int) - (i : Nat)) 1 := by rw [e1]; exact hg
  have hn : ∀ b, b ≠ I → b ∉ [I] := fun b hb q => hb (List.mem_singleton.mp q)
  rcases Nat.lt_or_ge i mm with hlt | hge
  · refine W.item i s Q E hlt hSt fun v h4 tk4 hP hSt4 hk4 => ?_
    obtain ⟨t4, rfl⟩ := hP
    refine h1 hlt h4 tk4 _ ⟨t4, by rw [e1]⟩ ⟨m4, _, R4.updE hcc hI (fun b ob hb e => hk4 b ob (hn b hb) e) hSt4 (ao := .riter (i + 1) mm) ⟨hlt, ?_⟩⟩
    rw [e1]
  · obtain rfl : i = mm := Nat.le_antisymm hle hge
    exact W.done s Q E hSt fun h4 tk4 hk4 => h2 rfl h4 tk4 ⟨m4, _, R4.drop hcc hI (fun b ob hb e => hk4 b ob (hn b hb) e)⟩
theorem rG {target e : Expr} {body : List Stmt} {x : Str} {xp cp pos : Pos} {Te : TE} {U : AV → TS} {Tb : TS} (ex : nsIn K mainGlobals x = some none) (hv : bootBuiltins x = some (.type "range")) (hn : x ≠ "__name__") (ge : GE en x) (hd : (x == ("__debug__" : Str)) = false)
    (hp : eN [e]) (he : SE prog w K d q sc f cd en e Te) (hc : ∀ env, eval (.Call (.Name x xp) [e] [] cp) env = (do callWith cp (← eval (.Name x xp) env) [] (backTo cp (starEach [e] env)) (backToKw cp (keywordEach [] env))))
    (hU : SA prog w K d q sc f cd en target U) (hb : SS prog w K d q sc f cd en body Tb)
    (hs : ∀ env y, foldedSetIterable (.Call (.Name x xp) [e] [] cp) env y = pure y) (hgo : ∀ it v, letOwnedTupleGo target it v = pure ()) : S1 prog w K d q sc f cd en (.For target (.Call (.Name x xp) [e] [] cp) body [] pos) (l0 Te U Tb) := by
  refine ⟨?_⟩
  intro A L h₀ s _tp st ρ k C R H
  obtain ⟨m0, cs0, R'⟩ := R
  refine wpAny_For (Call_ (nz C.glo R'.fr ex hv hn ge hd ?_) (hc _)) (hs _)
  refine jB (.inr ⟨_, rfl⟩) hp (spliced_cons (sq (he.run A L h₀ s inferInstance st ρ _ C ⟨m0, cs0, R'⟩ H) fun v h' tk _ a st1 σ R1 i1 k1 => spliced_nil ?_))
  split at k1
  · rename_i m
    obtain ⟨k0, k2, k1⟩ := k1
    obtain ⟨t, rfl⟩ := i1
    show wpAny _ _ (PySem.call (.type "range") [.int m t]) _ _ _
    refine call_range_1 ?_
    have hsz : Builtin.Range.rangeSize 0 m 1 = m := by
      unfold Builtin.Range.rangeSize
      simp only [show (1 : Int) > 0 from by decide, if_true]
      split <;> lia
    refine wpAny_pyIter_range (Heap.get?_push_size _ rfl) ?_ ?_
    · unfold Builtin.Range.small
      rw [hsz]
      simp [Builtin.Range.rangeFitsLong]
      lia
    · rw [hsz]
      obtain ⟨m1, cs1, R1'⟩ := R1
      have R2 := R1'.ext (h' := h'.push { cls := .type "range", data := .fields #[.int 0 tk, .int m t, .int 1 (tk + 1)] }) (fun b o e => Heap.get?_push_of_some _ e)
      have R3 := R2.add1 (ao := .riter 0 m.toNat) (o := { cls := .type "range_iterator", data := .fields #[rawInt 0, rawInt m, rawInt 1] }) (R2.fr.push _) (News.push R2.fr R2.nw _ rfl) (fun p hp => Heap.lt_size (R2.nw p hp).1) ⟨Nat.zero_le _, by
        have e1 : ((m.toNat : Nat) : Int) - ((0 : Nat) : Int) = m := by lia
        rw [e1]; rfl⟩
      generalize hII : (h'.push { cls := .type "range", data := .fields #[.int 0 tk, .int m t, .int 1 (tk + 1)] }).objs.size = I at R3
      have hI : (ρ ++ σ ++ [I])[st1.objs.length]? = some I := ei R1'.len
      refine codeAny_forLoop_any (fun n' s' => Lv w h₀ L s (ρ ++ σ ++ [I]) (fun st => dL st1.objs.length U Tb n' st k) s') ?_ (m.toNat + 1)
        ⟨_, tk + 1 + 1, _, [], rfl, inferInstance, by rw [List.append_nil]; exact ⟨_, _, R3⟩, k1⟩
      rintro n' s' ⟨h3, tk3, st3, σ3, rfl, tp3, R3, kk⟩
      cases n' with
      | zero => exact kk.elim
      | succ n' =>
        cases mO kk with
        | turn i mm hj hlt kk =>
          refine jp (s := { s with heap := h3, toks := tk3 }) (kt (s := { s with heap := h3, toks := tk3 }) C.hand R3 hj (cE σ3 hI) (fun _ h4 tk4 v hv R4 tp4 => wpAny_of_eq (hgo _ _) ?_) fun e => absurd hlt (Nat.not_lt.mpr (Nat.le_of_eq e.symm)))
          refine sqU (s := { s with heap := h4, toks := tk4 }) inferInstance (hU A L h₀ { s with heap := h4, toks := tk4 } tp4 _ _ _ (.int i) v C R4 hv kk) fun _ h5 tk5 tp5 b5 st5 σ5 R5 i5 k5 => ?_
          refine sqE (s := { s with heap := h5, toks := tk5 }) inferInstance (hb.run A L h₀ { s with heap := h5, toks := tk5 } tp5 _ _ _ C R5 k5) fun fl h6 tk6 tp6 b6 st6 σ6 R6 i6 k6 => ?_
          cases b6 with
          | next => obtain rfl : fl = .next := i6; exact ⟨n', Nat.lt_succ_self _, Lv.up (Lv.up ⟨h6, tk6, st6, σ6, rfl, tp6, R6, k6⟩)⟩
          | cont => obtain rfl : fl = .cont := i6; exact ⟨n', Nat.lt_succ_self _, Lv.up (Lv.up ⟨h6, tk6, st6, σ6, rfl, tp6, R6, k6⟩)⟩
          | brk => obtain rfl : fl = .brk := i6; exact Post.up (Post.up (Post.up (Post.up ⟨h6, tk6, .next, st6, σ6, rfl, R6, rfl, k6⟩)))
          | ret a6 => obtain ⟨v6, rfl, hv6⟩ := i6; exact Post.up (Post.up (Post.up (Post.up ⟨h6, tk6, .ret a6, st6, σ6, rfl, R6, ⟨v6, rfl, hv6⟩, k6⟩)))
        | done i mm hj hge kk =>
          exact kt (s := { s with heap := h3, toks := tk3 }) C.hand R3 hj (cE σ3 hI) (fun e => absurd e hge) fun _ h4 tk4 R4 => wpAny_execs_nil (Post.up (Post.up ⟨h4, tk4, .next, _, σ3, rfl, R4, rfl, kk⟩))
  · exact k1.elim
end
end Mine
namespace Mine
noncomputable def qj : TF := fun avs os k => ∃ i, avs = [.obj i] ∧ os[i]? = some (.list []) ∧ k (.obj os.length) (os ++ [.dict []])
section
variable {prog : Program} {w : World} {K : Frag} {d : Nat}
end
section
variable {prog : Program} {w : World} {A : Around} {E : Value → Shared → Prop} {s : Shared}
theorem fF {a : Addr} {o : Obj} {xs : Array Value} {k : Nat} {name : Str} {Q : Option Value → Shared → Prop}
    (hx : s.heap.get? a = some o) (hc : o.cls = .type "list") (hdat : o.data = .seq xs k) (hd : o.dict = none) (hmiss : typeLookup (.type "list") name = pure none) (hname : (["__module__", "__name__", "__qualname__", "__doc__", "__annotations__"] : List Str).contains name = false) (hA : A.handled = none)
    (h : ∀ h' tk, (∀ b o, s.heap.get? b = some o → h'.get? b = some o) → Q none { s with heap := h', toks := tk }) (hsz : name.length + 100 ≤ sizeLine := by size_fits) :
    wpAny (model prog w) A (getAttr? (.ref a) name) Q E s := by
  obtain ⟨c, dct, dat, sl⟩ := o
  simp only at hc hdat hd
  subst hc hdat hd
  obtain ⟨hp, g, d, tk, os⟩ := s
  have hT : ∀ tk', (⟨hp, g, d, tk', os⟩ : Shared).TypeIs (.ref a) "list" := fun _ => ⟨_, hx, rfl⟩
  have f1 := sub_AttributeError
  have f3 := F.slot_list_getattribute.lookup
  have f4 := F.slot_list_getattribute.bind (.ref a)
  have f5 := am_list_getattr_none
  unfold getAttr? getAttrBy? getAttrBy
  repeat (any_goals (first | assumption | exact hT _ | ((with_reducible show wpAny _ _ (call (Value.builtin "list.__getattribute__") _ _) _ _ _); refine call_meets PySem.F.slot_list_getattribute (hT _) am_entry_list_getattribute (PySem.F.args_list_getattribute_2 _ _) (meets_getattribute_miss_list a xs k sl name _ hmiss hname hsz) ⟨hx, hA, fun h' tk' e hx' => ?_⟩) | wp_step))
  obtain ⟨t', u', he⟩ := hx'.there
  show wpAny _ _ (getattributeRaised _ _ _ _ _ _ _) _ _ _
  unfold getattributeRaised
  repeat (any_goals (first | assumption | wp_step))
  exact h _ _ hx'.keeps
theorem mP : typeLookup (.type "list") "keys" = pure none := by rw [typeLookup_type, builtinLookup_eq_fast]; kernel_rfl
theorem mQ : entryFor table "dict.update.loop" = some Builtin.«dict.update.loop» := entryFor_of_tree (by kernel_rfl)
theorem iU {l : Addr} {n : Nat} {h₀ : Heap} {L : Addr} {m : Str → Option Value} {news : List (Addr × Obj)} {Q : Value → Shared → Prop} (F : Fr h₀ L s.heap m) (N : News h₀ L s.heap news) (hl : s.heap.get? l = some (listOf #[] n)) (hA : A.handled = none)
    (hq : ∀ h' tk, Fr h₀ L h' m → News h₀ L h' ((s.heap.objs.size, dictOf [] 0) :: news) → Q (.ref s.heap.objs.size) { s with heap := h', toks := tk }) :
    wpAny (model prog w) A (call (.type "dict") [.ref l]) Q E s := by
  refine callType_codes (Q₁ := fun obj s₁ => obj = .ref s.heap.objs.size ∧ s₁ = { s with heap := s.heap.push { cls := .type "dict", data := .dict #[] } }) PySem.F.kt_called_dict (PySem.F.kt_typeCall_dict_1 _) PySem.F.entry_dict_init (kt_code_dict_new _ ⟨rfl, rfl⟩) ?_
  rintro obj s₁ ⟨rfl, rfl⟩
  have hnew : (s.heap.push { cls := .type "dict", data := .dict #[] }).get? s.heap.objs.size = some { cls := .type "dict", data := .dict #[] } := Heap.get?_push_size _ rfl
  have hT : ({ s with heap := s.heap.push { cls := .type "dict", data := .dict #[] } } : Shared).TypeIs (.ref s.heap.objs.size) "dict" := ⟨_, hnew, rfl⟩
  have hl' : (s.heap.push { cls := .type "dict", data := .dict #[] }).get? l = some (listOf #[] n) := Heap.get?_push_of_some _ hl
  have hTl : ({ s with heap := s.heap.push { cls := .type "dict", data := .dict #[] } } : Shared).TypeIs (.ref l) "list" := ⟨_, hl', rfl⟩
  refine ⟨hT, PySem.F.args_dict_init_2 _ _, ?_⟩
  unfold Builtin.«dict.__init__»
  refine wpAny_bind ?_
  unfold Builtin.Dict.selfAndRest
  refine wpAny_bind (wpAny_notOrdered_dict hT ?_)
  show wpAny _ _ (pure (s.heap.objs.size, [Value.ref l])) _ _ _
  refine wpAny_pure ?_
  show wpAny _ _ (Builtin.Dict.updateFrom "dict.__init__" s.heap.objs.size (.ref l) [] .none) _ _ _
  unfold Builtin.Dict.updateFrom
  refine wpAny_bind (wpAny_typeOf hTl ?_)
  rw [if_pos (by decide)]
  refine wpAny_bind (fF (o := listOf #[] n) hl' rfl rfl rfl mP (by decide +kernel) hA (fun h2 tk2 hk2 => ?_))
  rw [if_pos (show ((none : Option Value).isNone = true) from rfl)]
  have hl2 : (h2 : Heap).get? l = some (listOf #[] n) := hk2 _ _ hl'
  have hn2 : h2.get? s.heap.objs.size = some { cls := .type "dict", data := .dict #[] } := hk2 _ _ hnew
  refine wpAny_bind (wpAny_rule (wpAny_bind (wpAny_pyIter_list (s := { s with heap := h2, toks := tk2 }) ⟨_, hl2, rfl, n, rfl⟩ ?_)))
  refine wpAny_pure ⟨Code.quiet_builtin _ (by decide +kernel), codeAny_builtin mQ ?_⟩
  unfold Builtin.«dict.update.loop»
  have hit : (h2.push { cls := .type "list_iterator", data := .fields #[.ref l, .int 0 0] }).IsListIter h2.objs.size l 0 := ⟨_, Heap.get?_push_size _ rfl, rfl, rfl⟩
  have hl3 : (h2.push { cls := .type "list_iterator", data := .fields #[.ref l, .int 0 0] }).get? l = some (listOf #[] n) := Heap.get?_push_of_some _ hl2
  refine wpAny_bind (wpAny_pyNext_list_end hA hit ⟨_, hl3, rfl, n, rfl⟩ rfl fun h3 hx3 => ?_)
  have hk3 : ∀ b o, h2.get? b = some o → h3.get? b = some o := fun b o e => hx3 _ _ (Nat.ne_of_lt (Heap.lt_size e)) (Heap.get?_push_of_some _ e)
  have hk : ∀ b o, (s.heap.push { cls := .type "dict", data := .dict #[] }).get? b = some o → h3.get? b = some o := fun b o e => hk3 _ _ (hk2 _ _ e)
  have F1 := F.push { cls := .type "dict", data := .dict #[] }
  have N1 := News.push F N { cls := .type "dict", data := .dict #[] }
  show wpAny _ _ (Builtin.Dict.addKeywords s.heap.objs.size [] >>= _) _ _ _
  exact wpAny_bind (wpAny_pure (wpAny_pure ⟨rfl, hq h3 tk2 (F1.grownK hk) (N1.grown hk)⟩))
end
section
variable {prog : Program} {w : World} {K : Frag} {d : Nat}
theorem nY : fZ prog w K d (.type "dict") qj := by
  intro A q sc L fa cd h₀ s tp st ρ k avs vs C R V H
  obtain ⟨i, rfl, hi, H⟩ := H
  obtain ⟨v, vs', rfl, ⟨a, ha, rfl⟩, rfl⟩ := V
  obtain ⟨m, cs, R'⟩ := R
  obtain ⟨ws, n, _, hv, hg⟩ := R'.listAt hi ha
  obtain rfl : ws = [] := hv
  obtain ⟨_, _, _, _, TT⟩ := C.glo.top
  exact iU R'.fr R'.nw hg C.hand fun h' tk F' N' => fb (ao := .dict []) rfl R' F' N' (fun p hp => Heap.lt_size (R'.nw p hp).1) ⟨[], 0, rfl, rfl, R'.fr.notModules (modules_low TT.nolimit)⟩ H
end
structure Scr (K : Frag) (a : Nat) (ns : List Int) : Prop where
  ex : ∃ o vs n, K.lookup a = some o ∧ o.cls = .type "list" ∧ o.data = .seq (vs : List Value).toArray n ∧ IntsAre vs ns
  le : ns.length ≤ 1000
noncomputable def l9 (a : Nat) (st : St) : Prop := ag N.I st.loc = some (.glob (.ref a))
noncomputable def ma (a : Nat) (ns : List Int) : TB := fun st k => l9 a st ∧ k (!ns.isEmpty) st
noncomputable def md (a : Nat) (ns : List Int) : TE := fun st k => l9 a st ∧ match ns with
  | n :: _ => k (.int n) st
  | [] => False
noncomputable def me (a : Nat) (ns : List Int) : TE := fun st k => l9 a st ∧ k (.obj st.objs.length) { st with objs := st.objs ++ [.list (((ns.drop 1).take 16).map .int)] }
section
variable {prog : Program} {w : World} {K : Frag} {d : Nat} {q : Str} {sc : Scope} {f : Addr} {cd : Value}
theorem Scr.list {a : Nat} {ns : List Int} (S : Scr K a ns) {h₀ h : Heap} {L : Addr} {m : Str → Option Value} (G : Glo K h₀) (F : Fr h₀ L h m) : ∃ vs : List Value, h.IsList a vs.toArray ∧ IntsAre vs ns := by
  obtain ⟨o, vs, n, h1, h2, h3, h4⟩ := S.ex
  exact ⟨vs, ⟨o, F.keep _ _ (G.kin _ _ h1), h2, n, h3⟩, h4⟩
theorem jK {A : Around} {L : Addr} {h₀ : Heap} {s : Shared} {st : St} {ρ : List Addr} {a : Nat} {x : Str} {pos : Pos} {E : Value → Shared → Prop} {Q : Value → Shared → Prop} (hn : nm N.I = x) (hl : sc.names.lookup x = some .local) (hd : (x == ("__debug__" : Str)) = false)
    (C : Cx K d A q sc L f cd h₀) (R : Rl w.params h₀ L s.heap st ρ) (hs : l9 a st) (h : Q (.ref a) s) : wpAny (model prog w) A (eval (.Name x pos) (fl q sc f cd L)) Q E s := by
  obtain ⟨m, cs, R'⟩ := R
  obtain ⟨v, hv, rfl⟩ := R'.lo N.I _ hs
  rw [hn] at hv
  exact ld R'.fr hv h C.kind hl hd
theorem rH {a : Nat} {ns : List Int} (S : Scr K a ns) {x : Str} {pos : Pos} (hn : nm N.I = x) (hl : sc.names.lookup x = some .local) (hd : (x == ("__debug__" : Str)) = false)
    (hp : ∀ env, isTrue (.Name x pos) env (eval (.Name x pos) env) = (do let v ← eval (.Name x pos) env; standAt (Expr.Name x pos).pos; holding [v] (truthy v))) : SB prog w K d q sc f cd (fl q sc f cd) (.Name x pos) (ma a ns) := by
  refine ⟨?_⟩
  intro A L h₀ s _tp st ρ k C R ⟨hs, T⟩
  refine isTrue_plain (jK hn hl hd C R hs ?_) (hp _)
  obtain ⟨m, cs, R'⟩ := R
  obtain ⟨vs, h1, h2⟩ := S.list C.glo R'.fr
  have hlen := h2.length
  have := S.le
  refine wpAny_truthy_list h1 (by simp; lia) ?_
  have e : (!vs.toArray.isEmpty) = !ns.isEmpty := by cases h2 <;> rfl
  rw [e]
  exact dP (s := s) (I := pj) ⟨m, cs, R'⟩ rfl T
theorem rI {a : Nat} {ns : List Int} (S : Scr K a ns) {x : Str} {n : Nat} {np cp pos : Pos} (hn : nm N.I = x) (hl : sc.names.lookup x = some .local) (hd : (x == ("__debug__" : Str)) = false) :
    SE prog w K d q sc f cd (fl q sc f cd) (.Subscript (.Name x np) (.Constant (.int 0) n cp) pos) (md a ns) := by
  refine ⟨?_⟩
  intro A L h₀ s _tp st ρ k C R ⟨hs, T⟩
  refine Subscript_ (jK hn hl hd C R hs (wpAny_Constant_int ?_))
  obtain ⟨m, cs, R'⟩ := R
  obtain ⟨vs, h1, h2⟩ := S.list C.glo R'.fr
  cases h2 with
  | nil => exact T.elim
  | cons i t h3 =>
    have hlen := h3.length
    have := S.le
    refine tail_any (Heap.IsList.typeIs (s := { s with toks := s.toks + 1 }) h1) slot_list_getitem.lookup ?_ (by rfl)
    refine wpAny_getItem_list (s := { s with toks := s.toks + 1 }) h1 (by lia) (by lia) (x := .int i t) (by rfl) ?_
    exact dP (b := AV.int i) ⟨m, cs, R'⟩ ⟨_, rfl⟩ T
theorem jd {ρ : List Addr} : ∀ {vs : List Value} {ns : List Int}, IntsAre vs ns → Vals ρ (ns.map .int) vs
  | _, _, .nil => rfl
  | _, _, .cons n t h => ⟨_, _, rfl, ⟨t, rfl⟩, jd h⟩
theorem nZ (ns : List Int) : (ns.drop (clipAt ns.length 1)).take (clipAt ns.length 17 - clipAt ns.length 1) = (ns.drop 1).take 16 := by
  cases ns with
  | nil => simp
  | cons i r =>
    have e1 : clipAt (i :: r).length 1 = 1 := clipAt_in (by lia) (by simp; lia)
    rw [e1]
    have e2 := clipAt_min (n := (i :: r).length) (y := 17) (by lia)
    show List.take _ r = List.take 16 r
    split at e2
    · have e3 : clipAt (i :: r).length 17 = r.length + 1 := by simp at e2 ⊢; lia
      rename_i h
      simp at h
      rw [e3, List.take_of_length_le (by lia), List.take_of_length_le (by lia)]
    · have e3 : clipAt (i :: r).length 17 = 17 := by lia
      rw [e3]
theorem rJ {a : Nat} {ns : List Int} (S : Scr K a ns) {x : Str} {n1 n2 : Nat} {np c1 c2 sp pos : Pos} (hn : nm N.I = x) (hl : sc.names.lookup x = some .local) (hd : (x == ("__debug__" : Str)) = false) :
    SE prog w K d q sc f cd (fl q sc f cd) (.Subscript (.Name x np) (.Slice (some (.Constant (.int 1) n1 c1)) (some (.Constant (.int 17) n2 c2)) none sp) pos) (me a ns) := by
  refine ⟨?_⟩
  intro A L h₀ s _tp st ρ k C R ⟨hs, T⟩
  refine Subscript_ (jK hn hl hd C R hs (wpAny_Slice ?_))
  show wpAny _ _ (eval (.Constant (.int 1) n1 c1) (fl q sc f cd L)) _ _ _
  refine wpAny_Constant_int ?_
  show wpAny _ _ (eval (.Constant (.int 17) n2 c2) (fl q sc f cd L)) _ _ _
  refine wpAny_Constant_int ?_
  refine wpAny_pure ?_
  obtain ⟨m, cs, R'⟩ := R
  obtain ⟨vs, h1, h2⟩ := S.list C.glo R'.fr
  have hlen := h2.length
  have hle := S.le
  refine slice_list (s := { s with toks := s.toks + 1 + 1 }) R'.fr R'.nw h1 (.int 1 _) (.int 17 _) (fun h' F' N' => ?_) rfl (fun r => rfl) (Nat.le_trans (by simp; lia) (show 1000 ≤ sizeLine by decide))
  have hv := jd (ρ := ρ ++ [s.heap.objs.size + 1]) (slice_ints_plain h2 1 17)
  rw [nZ] at hv
  exact fb (ao := .list (((ns.drop 1).take 16).map .int)) rfl R' F' N' (fun p hp => Nat.lt_succ_of_lt (Heap.lt_size (R'.nw p hp).1)) ⟨(slicePick vs.toArray (some 1) (some 17) none).toList, 0, hv, by simp [W.listOf]⟩ T
end
noncomputable def sAt (l : List Stmt) (i : Nat) : Stmt := l.getD i (.Pass ⟨0, 0, 0, 0⟩)
noncomputable def aL : Stmt → List Stmt
  | .FunctionDef _ _ b _ _ _ _ _ _ _ => b
  | .ClassDef _ _ _ b _ _ _ _ _ _ _ => b
  | _ => []
noncomputable def aw : Stmt → Scope
  | .FunctionDef _ _ _ _ _ _ s _ _ _ => s
  | _ => { kind := .function, names := [], isGenerator := false, isCoroutine := false, more := [] }
noncomputable def fG : Stmt → Arguments
  | .FunctionDef _ a _ _ _ _ _ _ _ _ => a
  | _ => { posonlyargs := [], args := [], vararg := none, kwonlyargs := [], kw_defaults := [], kwarg := none, defaults := [] }
noncomputable def fH : Stmt → Str
  | .FunctionDef n _ _ _ _ _ _ _ _ _ => n
  | _ => Str.ofString ""
noncomputable def top : List Stmt := PySem.Challenge.pw_ru0005_01.main.body
noncomputable def fd.initText : Stmt := sAt (aL (sAt top 13)) 0
noncomputable def fd.read : Stmt := sAt (aL (sAt top 13)) 1
noncomputable def fd.uis_invalid : Stmt := sAt top 14
noncomputable def fd.initHTMLUnicodeInputStream : Stmt := sAt (aL (sAt top 15)) 1
noncomputable def fd.reset : Stmt := sAt (aL (sAt top 15)) 2
noncomputable def fd.openStream : Stmt := sAt (aL (sAt top 15)) 3
noncomputable def fd.uposition : Stmt := sAt (aL (sAt top 15)) 4
noncomputable def fd.position : Stmt := sAt (aL (sAt top 15)) 5
noncomputable def fd.char : Stmt := sAt (aL (sAt top 15)) 6
noncomputable def fd.readChunk : Stmt := sAt (aL (sAt top 15)) 7
noncomputable def fd.characterErrorsUCS4 : Stmt := sAt (aL (sAt top 15)) 8
noncomputable def fd.charsUntil : Stmt := sAt (aL (sAt top 15)) 9
noncomputable def fd.unget : Stmt := sAt (aL (sAt top 15)) 10
noncomputable def fd.initHTMLTokenizer : Stmt := sAt (aL (sAt top 21)) 0
noncomputable def fd.emitCurrentToken : Stmt := sAt (aL (sAt top 21)) 5
noncomputable def fd.dataState : Stmt := sAt (aL (sAt top 21)) 6
noncomputable def fd.tagOpenState : Stmt := sAt (aL (sAt top 21)) 13
noncomputable def fd.closeTagOpenState : Stmt := sAt (aL (sAt top 21)) 14
noncomputable def fd.tagNameState : Stmt := sAt (aL (sAt top 21)) 15
noncomputable def fd.beforeAttributeNameState : Stmt := sAt (aL (sAt top 21)) 39
noncomputable def fd.selfClosingStartTagState : Stmt := sAt (aL (sAt top 21)) 47
noncomputable def fd.bogusCommentState : Stmt := sAt (aL (sAt top 21)) 48
noncomputable def fd.markupDeclarationOpenState : Stmt := sAt (aL (sAt top 21)) 49
noncomputable def fd.asciiLower : Stmt := sAt top 7
noncomputable def fd.ulaw_place : Stmt := sAt top 29
noncomputable def fd.ulaw_flag : Stmt := sAt top 30
noncomputable def fd.ulaw_token : Stmt := sAt top 31
noncomputable def fd.ulaw_queue : Stmt := sAt top 32
noncomputable def fd.ulaw_call : Stmt := sAt top 33
noncomputable def tb : Tabs := ⟨[(22, true, [.str [9], .str [10], .str [12], .str [32], .str [13]]), (27, true, [.str [97], .str [98], .str [99], .str [100], .str [101], .str [102], .str [103], .str [104], .str [105], .str [106], .str [107], .str [108], .str [109], .str [110], .str [111], .str [112], .str [113], .str [114], .str [115], .str [116], .str [117], .str [118], .str [119], .str [120], .str [121], .str [122], .str [65], .str [66], .str [67], .str [68], .str [69], .str [70], .str [71], .str [72], .str [73], .str [74], .str [75], .str [76], .str [77], .str [78], .str [79], .str [80], .str [81], .str [82], .str [83], .str [84], .str [85], .str [86], .str [87], .str [88], .str [89], .str [90]]), (49, true, [.int 3, .int 4, .int 5]), (767, false, [.str [97], .str [66], .str [47], .str [62], .str [32], .str [0], .str [90], .str [233], .str [45], .str [13], .str [63], .str [33], .str [120], .str [10], .str [60], .str [49], .str [13, 10], .str [8490], .str [9], .str [72], .str [45, 45], .str [61], .str [38], .str [100, 111, 99, 116, 121, 112, 101], .str [12], .str [39], .str [119987], .str [304], .str [112, 62], .str [113, 47], .str [65533], .str [75]]), (769, false, []), (770, true, [.glob (.ref 769), .bool true, .str [109, 97, 114, 107, 117, 112]]), (771, false, []), (772, true, [.glob (.ref 771), .bool true, .str [99, 108, 111, 115, 101]]), (773, true, [.int 7, .str [101, 120, 112, 101, 99, 116, 101, 100, 45, 116, 97, 103, 45, 110, 97, 109, 101, 45, 98, 117, 116, 45, 103, 111, 116, 45, 114, 105, 103, 104, 116, 45, 98, 114, 97, 99, 107, 101, 116]]), (774, true, [.int 1, .str [60, 62]]), (775, false, [.glob (.ref 773), .glob (.ref 774)]), (776, true, [.glob (.ref 775), .bool true, .str [100, 97, 116, 97]]), (777, true, [.int 7, .str [101, 120, 112, 101, 99, 116, 101, 100, 45, 116, 97, 103, 45, 110, 97, 109, 101, 45, 98, 117, 116, 45, 103, 111, 116, 45, 113, 117, 101, 115, 116, 105, 111, 110, 45, 109, 97, 114, 107]]), (778, false, [.glob (.ref 777)]), (779, true, [.glob (.ref 778), .bool false, .str [98, 111, 103, 117, 115]]), (780, true, [.int 7, .str [101, 120, 112, 101, 99, 116, 101, 100, 45, 116, 97, 103, 45, 110, 97, 109, 101]]), (781, true, [.int 1, .str [60]]), (782, false, [.glob (.ref 780), .glob (.ref 781)]), (783, true, [.glob (.ref 782), .bool false, .str [100, 97, 116, 97]]), (785, true, [.int 7, .str [101, 120, 112, 101, 99, 116, 101, 100, 45, 99, 108, 111, 115, 105, 110, 103, 45, 116, 97, 103, 45, 98, 117, 116, 45, 103, 111, 116, 45, 114, 105, 103, 104, 116, 45, 98, 114, 97, 99, 107, 101, 116]]), (786, false, [.glob (.ref 785)]), (787, true, [.glob (.ref 786), .bool true, .str [100, 97, 116, 97]]), (788, true, [.int 7, .str [101, 120, 112, 101, 99, 116, 101, 100, 45, 99, 108, 111, 115, 105, 110, 103, 45, 116, 97, 103, 45, 98, 117, 116, 45, 103, 111, 116, 45, 101, 111, 102]]), (789, true, [.int 1, .str [60, 47]]), (790, false, [.glob (.ref 788), .glob (.ref 789)]), (791, true, [.glob (.ref 790), .bool false, .str [100, 97, 116, 97]]), (792, true, [.int 7, .str [101, 120, 112, 101, 99, 116, 101, 100, 45, 99, 108, 111, 115, 105, 110, 103, 45, 116, 97, 103, 45, 98, 117, 116, 45, 103, 111, 116, 45, 99, 104, 97, 114]]), (793, false, [.glob (.ref 792)]), (794, true, [.glob (.ref 793), .bool false, .str [98, 111, 103, 117, 115]])], [(48, [([68, 111, 99, 116, 121, 112, 101], .int 0), ([67, 104, 97, 114, 97, 99, 116, 101, 114, 115], .int 1), ([83, 112, 97, 99, 101, 67, 104, 97, 114, 97, 99, 116, 101, 114, 115], .int 2), ([83, 116, 97, 114, 116, 84, 97, 103], .int 3), ([69, 110, 100, 84, 97, 103], .int 4), ([69, 109, 112, 116, 121, 84, 97, 103], .int 5), ([67, 111, 109, 109, 101, 110, 116], .int 6), ([80, 97, 114, 115, 101, 69, 114, 114, 111, 114], .int 7)]), (768, [([33], .glob (.ref 770)), ([47], .glob (.ref 772)), ([62], .glob (.ref 776)), ([63], .glob (.ref 779))]), (784, [([62], .glob (.ref 787)), ([], .glob (.ref 791))])]⟩
noncomputable def qk : List Nat := [148, 304, 353, 360, 367, 535, 591, 598, 605]
noncomputable def n0 : List (Nat × AV) := [(N.L, .none), (N.W, .glob (.ref 22)), (N.aj, .glob (.ref 27)), (N.d, .glob (.ref 48)), (N.bl, .glob (.ref 49)), (N.ba, .glob (.ref 767)), (N.a8, .glob (.ref 768)), (N.a9, .glob (.ref 783)), (N.bb, .glob (.ref 784)), (N.a7, .glob (.ref 794)), (N.a6, .str [97, 98, 99, 100, 101, 102, 103, 104, 105, 106, 107, 108, 109, 110, 111, 112, 113, 114, 115, 116, 117, 118, 119, 120, 121, 122, 65, 66, 67, 68, 69, 70, 71, 72, 73, 74, 75, 76, 77, 78, 79, 80, 81, 82, 83, 84, 85, 86, 87, 88, 89, 90])]
noncomputable def n5 : List Nat := [N.H, N.af, N.aK, N.bg, N.bf, N.aL, N.bi]
noncomputable def pL : List (Nat × Nat) := [(N.aW, 42), (N.aS, 84), (N.aV, 801), (N.aU, 808), (N.M, 815), (N.ac, 820), (N.aT, 827)]
noncomputable def mR : List (Nat × Nat) := [(73, 63), (166, 98), (762, 261)]
noncomputable def qV : List (Nat × Nat) := [(N.a5, 73), (N.a4, 166), (N.aG, 762)]
noncomputable def je (n : Nat) : List (Nat × Nat) → Option Nat
  | [] => none
  | p :: r => bif Nat.beq p.1 n then some p.2 else je n r
theorem cB : ∀ vs : List Value, vs.length = 1 → ∃ a, vs = [a]
  | [a], _ => ⟨a, rfl⟩
theorem d7 (vs : List Value) (h : vs.length = 2) : ∃ a b, vs = [a, b] := by
  cases vs with
  | nil => cases h
  | cons a r => obtain ⟨b, rfl⟩ := cB r (Nat.succ.inj h); exact ⟨a, b, rfl⟩
theorem qm (vs : List Value) (h : vs.length = 3) : ∃ a b c, vs = [a, b, c] := by
  cases vs with
  | nil => cases h
  | cons a r => obtain ⟨b, c, rfl⟩ := d7 r (Nat.succ.inj h); exact ⟨a, b, c, rfl⟩
theorem fg {n a : Nat} : ∀ {l : List (Nat × Nat)}, je n l = some a → (n, a) ∈ l
  | p :: r, h => by
    unfold je at h
    cases q : Nat.beq p.1 n with
    | true => rw [q] at h; cases h; rw [← Nat.eq_of_beq_eq_true q]; exact .head _
    | false => rw [q] at h; exact .tail _ (fg h)
theorem ku {n : Nat} {a : AV} : ∀ {l : List (Nat × AV)}, ag n l = some a → (n, a) ∈ l
  | p :: r, h => by
    unfold ag at h
    cases q : Nat.beq p.1 n with
    | true => rw [q] at h; cases h; rw [← Nat.eq_of_beq_eq_true q]; exact .head _
    | false => rw [q] at h; exact .tail _ (ku h)
noncomputable def FnIs (K : Frag) (a : Nat) (qual : Str) (fd : Stmt) (ds : List AV) : Prop := ∃ oc od dV kV doc pm an cdv ct osl, K.lookup a = some ⟨oc, od, .func (fnOf (fH fd) qual (fG fd) (aL fd) (aw fd) dV kV doc pm an cdv ct), osl⟩ ∧ codeIn K cdv qual = true ∧
  ((ds = [] ∧ dV = .none) ∨ ∃ T o n ws, ds.length ≠ 0 ∧ dV = .ref T ∧ K.lookup T = some o ∧ o.data = .seq (ws : List Value).toArray n ∧ Vals [] ds ws)
structure KAll (P : Params) (K : Frag) : Prop where
  ok : KOk2 K
  t : TOk P K tb
  gl : ∀ p ∈ n0, ∃ v, nsIn K mainGlobals (nm p.1) = some (some v) ∧ ∀ ρ, p.2.Is ρ v
  bu0 : ∀ n ∈ n5, nsIn K mainGlobals (nm n) = some none
  de0 : ∀ p ∈ pL, nsIn K mainGlobals (nm p.1) = some (some (.ref p.2)) ∧ keepIn K (.ref p.2) = true
  cl0 : ∀ p ∈ mR, makesIn K p.1 = true ∧ findIn K (.ref p.1) "__init__" = some (some (.ref p.2)) ∧ isFn K (.ref p.2) = true ∧ keepIn K (.ref p.1) = true
  ce0 : ∀ p ∈ qV, nsIn K mainGlobals (nm p.1) = some (some (.ref p.2))
  fi0 : ∀ g ∈ qk, fnIn K g = true
  ch0 : ∃ t, kb K 166 = true ∧ findIn K (.ref 166) (Str.ofString "_defaultChunkSize") = some (some (.int 10240 t)) ∧ specialIn K (.int 10240 t) "__get__" = some none ∧ copiedNames.contains (Str.ofString "_defaultChunkSize") = false
  finitText : FnIs K 63 "Text.__init__" fd.initText []
  fread : FnIs K 70 "Text.read" fd.read []
  fuis_invalid : FnIs K 84 "_is_invalid" fd.uis_invalid []
  finitHTMLUnicodeInputStream : FnIs K 98 "HTMLUnicodeInputStream.__init__" fd.initHTMLUnicodeInputStream []
  freset : FnIs K 105 "HTMLUnicodeInputStream.reset" fd.reset []
  fopenStream : FnIs K 112 "HTMLUnicodeInputStream.openStream" fd.openStream []
  fuposition : FnIs K 119 "HTMLUnicodeInputStream._position" fd.uposition []
  fposition : FnIs K 126 "HTMLUnicodeInputStream.position" fd.position []
  fchar : FnIs K 133 "HTMLUnicodeInputStream.char" fd.char []
  freadChunk : FnIs K 141 "HTMLUnicodeInputStream.readChunk" fd.readChunk [.none]
  fcharacterErrorsUCS4 : FnIs K 148 "HTMLUnicodeInputStream.characterErrorsUCS4" fd.characterErrorsUCS4 []
  fcharsUntil : FnIs K 156 "HTMLUnicodeInputStream.charsUntil" fd.charsUntil [.bool false]
  funget : FnIs K 163 "HTMLUnicodeInputStream.unget" fd.unget []
  finitHTMLTokenizer : FnIs K 261 "HTMLTokenizer.__init__" fd.initHTMLTokenizer [.none]
  femitCurrentToken : FnIs K 297 "HTMLTokenizer.emitCurrentToken" fd.emitCurrentToken []
  fdataState : FnIs K 304 "HTMLTokenizer.dataState" fd.dataState []
  ftagOpenState : FnIs K 353 "HTMLTokenizer.tagOpenState" fd.tagOpenState []
  fcloseTagOpenState : FnIs K 360 "HTMLTokenizer.closeTagOpenState" fd.closeTagOpenState []
  ftagNameState : FnIs K 367 "HTMLTokenizer.tagNameState" fd.tagNameState []
  fbeforeAttributeNameState : FnIs K 535 "HTMLTokenizer.beforeAttributeNameState" fd.beforeAttributeNameState []
  fselfClosingStartTagState : FnIs K 591 "HTMLTokenizer.selfClosingStartTagState" fd.selfClosingStartTagState []
  fbogusCommentState : FnIs K 598 "HTMLTokenizer.bogusCommentState" fd.bogusCommentState []
  fmarkupDeclarationOpenState : FnIs K 605 "HTMLTokenizer.markupDeclarationOpenState" fd.markupDeclarationOpenState []
  fasciiLower : FnIs K 42 "asciiLower" fd.asciiLower []
  fulaw_place : FnIs K 801 "_law_place" fd.ulaw_place []
  fulaw_flag : FnIs K 808 "_law_flag" fd.ulaw_flag []
  fulaw_token : FnIs K 815 "_law_token" fd.ulaw_token []
  fulaw_queue : FnIs K 820 "_law_queue" fd.ulaw_queue []
  fulaw_call : FnIs K 827 "_law_call" fd.ulaw_call []
theorem KAll.bu {P : Params} {K : Frag} (O : KAll P K) (x : Str) (n : Nat) (hn : nm n = x) (h : n ∈ n5) : nsIn K mainGlobals x = some none := hn ▸ O.bu0 n h
theorem KAll.de {P : Params} {K : Frag} (O : KAll P K) (x : Str) (n : Nat) (hn : nm n = x) {a : Nat} (h : je n pL = some a) : nsIn K mainGlobals x = some (some (.ref a)) := hn ▸ (O.de0 _ (fg h)).1
theorem KAll.dk {P : Params} {K : Frag} (O : KAll P K) (n : Nat) {a : Nat} (h : je n pL = some a) : keepIn K (.ref a) = true := (O.de0 _ (fg h)).2
theorem KAll.ce {P : Params} {K : Frag} (O : KAll P K) (x : Str) (n : Nat) (hn : nm n = x) {a : Nat} (h : je n qV = some a) : nsIn K mainGlobals x = some (some (.ref a)) := hn ▸ O.ce0 _ (fg h)
theorem KAll.cm {P : Params} {K : Frag} (O : KAll P K) (C I : Nat) (h : (C, I) ∈ mR) : makesIn K C = true := (O.cl0 _ h).1
theorem KAll.ci {P : Params} {K : Frag} (O : KAll P K) (C I : Nat) (h : (C, I) ∈ mR) : findIn K (.ref C) "__init__" = some (some (.ref I)) := (O.cl0 _ h).2.1
theorem KAll.cf {P : Params} {K : Frag} (O : KAll P K) (C I : Nat) (h : (C, I) ∈ mR) : isFn K (.ref I) = true := (O.cl0 _ h).2.2.1
theorem KAll.ck {P : Params} {K : Frag} (O : KAll P K) (C I : Nat) (h : (C, I) ∈ mR) : keepIn K (.ref C) = true := (O.cl0 _ h).2.2.2
section
variable {prog : Program} {w : World} {K : Frag} {d : Nat} {q : Str} {sc : Scope} {f : Addr} {cd : Value} {en : Addr → Env}
theorem aN (O : KAll w.params K) {x : Str} {pos : Pos} {n : Nat} {a : AV} (hn : nm n = x) (h : ag n n0 = some a) (ge : GE en x) (hd : (x == ("__debug__" : Str)) = false) : SE prog w K d q sc f cd en (.Name x pos) (ad a) := by
  obtain ⟨v, h1, h2⟩ := O.gl _ (ku h)
  exact rs (hn ▸ h1) h2 ge hd
theorem qW (O : KAll w.params K) {e : Expr} {x : Str} {pos : Pos} {T : TE} (hx : x = Str.ofString "_defaultChunkSize") (hn : nm N.aR = x) (he : SE prog w K d q sc f cd en e T) (hb : ∀ env, attributeBase e x env (eval e env) = eval e env) : SE prog w K d q sc f cd en (.Attribute e x pos) (fQ 166 N.aR 10240 T) := by
  obtain ⟨t, h1, h2, h3, h4⟩ := O.ch0
  subst hx
  exact pt hn he hb h1 h2 h3 h4
noncomputable def cM (ns : List Nat) (ds : List AV) (avs : List AV) : Option (List (Nat × AV)) := bif Nat.beq avs.length ns.length then some (ns.zip avs) else bif Nat.beq (avs.length + ds.length) ns.length then some (ns.zip (avs ++ ds)) else none
noncomputable def pM : List Nat → Bool
  | [] => true
  | n :: r => (r.all fun k => !Nat.beq n k) && pM r
theorem il {ρ : List Addr} : ∀ {ns : List Nat} {avs : List AV} {vs : List Value}, pM ns = true → Vals ρ avs vs → Locs ρ (fun y => (List.zipWith (fun n v => (nm n, v)) ns vs).lookup y) (ns.zip avs)
  | [], _, _, _, _ => fun n v e => by cases e
  | n :: ns, [], _, _, hv => by obtain rfl := hv; exact fun n v e => by cases e
  | n :: ns, a :: avs, _, hd, ⟨v, vs', e, ha, hr⟩ => by
    subst e
    obtain ⟨d1, d2⟩ := Bool.and_eq_true_iff.mp hd
    intro k b e
    rw [List.zip_cons_cons] at e
    unfold ag at e
    show ∃ x, List.lookup (nm k) ((nm n, v) :: _) = some x ∧ _
    cases q : Nat.beq n k with
    | true =>
      dsimp only at e
      rw [q] at e
      cases e
      refine ⟨v, ?_, ha⟩
      rw [Nat.eq_of_beq_eq_true q]; simp [List.lookup_cons]
    | false =>
      dsimp only at e
      rw [q] at e
      obtain ⟨x, h1, h2⟩ := il d2 hr k b e
      refine ⟨x, ?_, h2⟩
      have : (nm k == nm n) = false := by
        rw [eh]
        cases q2 : Nat.beq k n with
        | false => rfl
        | true => rw [Nat.eq_of_beq_eq_true q2] at q; simp at q
      rw [List.lookup_cons, this]
      exact h1
theorem im {v : Value} {y : Str} : ∀ {l : List (Str × Value)}, (l.map (·.1)).Nodup → l.lookup y = some v → l.reverse.lookup y = some v := by
  intro l hd h
  have mem : ∀ {l : List (Str × Value)}, l.lookup y = some v → (y, v) ∈ l := by
    intro l
    induction l with
    | nil => intro h; cases h
    | cons p r ih =>
      intro h
      rw [List.lookup_cons] at h
      split at h
      · rename_i e; cases h; rw [beq_iff_eq.mp e]; exact .head _
      · exact .tail _ (ih h)
  have of_mem : ∀ {l : List (Str × Value)}, (l.map (·.1)).Nodup → (y, v) ∈ l → l.lookup y = some v := by
    intro l
    induction l with
    | nil => intro _ h; cases h
    | cons p r ih =>
      intro hd h
      rw [List.map_cons, List.nodup_cons] at hd
      rw [List.lookup_cons]
      rcases List.mem_cons.mp h with rfl | h
      · simp
      · have : (y == p.1) = false := beq_eq_false_iff_ne.mpr fun e => hd.1 (e ▸ List.mem_map.mpr ⟨_, h, rfl⟩)
        rw [this]; exact ih hd.2 h
  exact of_mem (by rw [List.map_reverse]; exact List.pairwise_reverse.mpr (List.Pairwise.imp (fun h e => h e.symm) hd)) (List.mem_reverse.mpr (mem h))
theorem lv {ns : List Nat} {vs : List Value} {y : Str × Value} (h : y ∈ List.zipWith (fun n v => (nm n, v)) ns vs) : ∃ n ∈ ns, y.1 = nm n := by
  induction ns generalizing vs with
  | nil => cases h
  | cons n r ih =>
    cases vs with
    | nil => cases h
    | cons v vs =>
      rw [List.zipWith_cons_cons] at h
      rcases List.mem_cons.mp h with rfl | h
      · exact ⟨n, .head _, rfl⟩
      · obtain ⟨k, hk, e⟩ := ih h; exact ⟨k, .tail _ hk, e⟩
theorem io : ∀ {ns : List Nat} {vs : List Value}, pM ns = true → ((List.zipWith (fun n v => (nm n, v)) ns vs).map (·.1)).Nodup
  | [], _, _ => List.nodup_nil
  | _ :: _, [], _ => List.nodup_nil
  | n :: ns, v :: vs, hd => by
    obtain ⟨d1, d2⟩ := Bool.and_eq_true_iff.mp hd
    rw [List.zipWith_cons_cons, List.map_cons, List.nodup_cons]
    refine ⟨fun hm => ?_, io d2⟩
    obtain ⟨p, hp, e⟩ := List.mem_map.mp hm
    obtain ⟨k, hk, e2⟩ := lv hp
    have : n = k := g9 (e.symm.trans e2)
    subst this
    have := List.all_eq_true.mp d1 n hk
    simp at this
theorem Vals.app {ρ : List Addr} : ∀ {l r : List AV} {vs ws : List Value}, Vals ρ l vs → Vals ρ r ws → Vals ρ (l ++ r) (vs ++ ws)
  | [], _, _, _, h, h2 => by obtain rfl := h; exact h2
  | a :: l, _, _, _, ⟨v, vs', e, h1, h2⟩, h3 => by subst e; exact ⟨v, _, rfl, h1, h2.app h3⟩
theorem db {a : Nat} {qual : Str} {fd : Stmt} {ns : List Nat} {ds : List AV} {Tb : TS} (h : FnIs K a qual fd ds) (hn : pM ns = true) (hl : ∀ n ∈ ns, (aw fd).names.lookup (nm n) = some .local)
    (h1 : ds = [] → ∀ kV doc pm an cdv ct vs, vs.length = ns.length → bindArgs (fnOf (fH fd) qual (fG fd) (aL fd) (aw fd) .none kV doc pm an cdv ct) ⟨vs, []⟩ = pure (List.zipWith (fun n v => (nm n, v)) ns vs))
    (h2 : ds.length ≠ 0 → ∀ (ws : List Value) T kV doc pm an cdv ct vs, ws.length = ds.length → vs.length = ns.length → ∃ k, bindArgs (fnOf (fH fd) qual (fG fd) (aL fd) (aw fd) (.ref T) kV doc pm an cdv ct) ⟨vs, []⟩ = seqItems? (.ref T) >>= k ∧ k (some ws.toArray) = pure (List.zipWith (fun n v => (nm n, v)) ns vs))
    (h3 : ds.length ≠ 0 → ∀ (ws : List Value) T kV doc pm an cdv ct vs, ws.length = ds.length → vs.length + ds.length = ns.length → ∃ k, bindArgs (fnOf (fH fd) qual (fG fd) (aL fd) (aw fd) (.ref T) kV doc pm an cdv ct) ⟨vs, []⟩ = seqItems? (.ref T) >>= k ∧ k (some ws.toArray) = pure (List.zipWith (fun n v => (nm n, v)) ns (vs ++ ws)))
    (hbody : ∀ cdv, SS prog w K d qual (aw fd) a cdv (fl qual (aw fd) a cdv) (aL fd) Tb) (hco : (aw fd).isCoroutine = false) (hgen : (aw fd).isGenerator = false) (hk : (aw fd).kind = .function) (hcell : ∀ x ∈ (aw fd).names, x.2 ≠ .cell) :
    SF prog w K (d + 1) a (cL (cM ns ds) Tb) := by
  obtain ⟨oc, od, dV, kV, doc, pm, an, cdv, ct, osl, e1, e2, e3⟩ := h
  refine sC e1 e2 (fun s ρ avs vs loc X V e => ?_) (hbody cdv) hco hgen hk hcell
  unfold cM at e
  cases q1 : Nat.beq avs.length ns.length with
  | true =>
    rw [q1] at e
    cases e
    have hlen : vs.length = ns.length := by rw [V.len]; exact Nat.eq_of_beq_eq_true q1
    have hb : BindsTo s (fnOf (fH fd) qual (fG fd) (aL fd) (aw fd) dV kV doc pm an cdv ct) ⟨vs, []⟩ (List.zipWith (fun n v => (nm n, v)) ns vs) := by
      rcases e3 with ⟨hd0, rfl⟩ | ⟨T, o, n, ws, h0, rfl, t1, t2, t3⟩
      · exact BindsTo.of_eq (h1 hd0 _ _ _ _ _ _ vs hlen)
      · obtain ⟨k, k1, k2⟩ := h2 h0 ws T kV doc pm an cdv ct vs t3.len hlen
        exact BindsTo.of_defaults (o := o) rfl (X _ _ t1) t2 k1 k2
    refine ⟨_, hb, fun y hy => ?_, fun n v e => ?_⟩
    · obtain ⟨n, hm, e⟩ := lv hy; rw [e]; exact hl n hm
    · obtain ⟨x, x1, x2⟩ := il hn V n v e; exact ⟨x, im (io hn) x1, x2⟩
  | false =>
    rw [q1] at e
    cases q2 : Nat.beq (avs.length + ds.length) ns.length with
    | false => rw [q2] at e; cases e
    | true =>
      rw [q2] at e
      cases e
      have q2 := Nat.eq_of_beq_eq_true q2
      rcases e3 with ⟨rfl, rfl⟩ | ⟨T, o, n, ws, h0, rfl, t1, t2, t3⟩
      · simp at q2; rw [q2] at q1; simp at q1
      · obtain ⟨k, k1, k2⟩ := h3 h0 ws T kV doc pm an cdv ct vs t3.len (by rw [V.len]; exact q2)
        refine ⟨_, BindsTo.of_defaults (o := o) rfl (X _ _ t1) t2 k1 k2, fun y hy => ?_, fun n v e => ?_⟩
        · obtain ⟨n, hm, e⟩ := lv hy; rw [e]; exact hl n hm
        · obtain ⟨x, x1, x2⟩ := il hn (V.app t3.nil) n v e; exact ⟨x, im (io hn) x1, x2⟩
end
end Mine
namespace Mine
theorem Nm.L : nm N.L = Str.ofString "EOF" := by kernel_rfl
theorem Nd.L : (Str.ofString "EOF" == ("__debug__" : Str)) = false := by kernel_rfl
theorem Nm.aG : nm N.aG = Str.ofString "HTMLTokenizer" := by kernel_rfl
theorem Nd.aG : (Str.ofString "HTMLTokenizer" == ("__debug__" : Str)) = false := by kernel_rfl
theorem Nm.a4 : nm N.a4 = Str.ofString "HTMLUnicodeInputStream" := by kernel_rfl
theorem Nd.a4 : (Str.ofString "HTMLUnicodeInputStream" == ("__debug__" : Str)) = false := by kernel_rfl
theorem Nm.a5 : nm N.a5 = Str.ofString "Text" := by kernel_rfl
theorem Nd.a5 : (Str.ofString "Text" == ("__debug__" : Str)) = false := by kernel_rfl
theorem Nm.U : nm N.U = Str.ofString "_bufferedCharacter" := by kernel_rfl
theorem Nd.U : (Str.ofString "_bufferedCharacter" == ("__debug__" : Str)) = false := by kernel_rfl
theorem Nm.aR : nm N.aR = Str.ofString "_defaultChunkSize" := by kernel_rfl
theorem Nd.aR : (Str.ofString "_defaultChunkSize" == ("__debug__" : Str)) = false := by kernel_rfl
theorem Nm.aS : nm N.aS = Str.ofString "_is_invalid" := by kernel_rfl
theorem Nd.aS : (Str.ofString "_is_invalid" == ("__debug__" : Str)) = false := by kernel_rfl
theorem Nm.a6 : nm N.a6 = Str.ofString "_law_LETTERS" := by kernel_rfl
theorem Nd.a6 : (Str.ofString "_law_LETTERS" == ("__debug__" : Str)) = false := by kernel_rfl
theorem Nm.a7 : nm N.a7 = Str.ofString "_law_NO_END" := by kernel_rfl
theorem Nd.a7 : (Str.ofString "_law_NO_END" == ("__debug__" : Str)) = false := by kernel_rfl
theorem Nm.a8 : nm N.a8 = Str.ofString "_law_OPEN" := by kernel_rfl
theorem Nd.a8 : (Str.ofString "_law_OPEN" == ("__debug__" : Str)) = false := by kernel_rfl
theorem Nm.a9 : nm N.a9 = Str.ofString "_law_OTHER" := by kernel_rfl
theorem Nd.a9 : (Str.ofString "_law_OTHER" == ("__debug__" : Str)) = false := by kernel_rfl
theorem Nm.ba : nm N.ba = Str.ofString "_law_PIECES" := by kernel_rfl
theorem Nd.ba : (Str.ofString "_law_PIECES" == ("__debug__" : Str)) = false := by kernel_rfl
theorem Nm.bb : nm N.bb = Str.ofString "_law_SHUT" := by kernel_rfl
theorem Nd.bb : (Str.ofString "_law_SHUT" == ("__debug__" : Str)) = false := by kernel_rfl
theorem Nm.aT : nm N.aT = Str.ofString "_law_call" := by kernel_rfl
theorem Nd.aT : (Str.ofString "_law_call" == ("__debug__" : Str)) = false := by kernel_rfl
theorem Nm.aU : nm N.aU = Str.ofString "_law_flag" := by kernel_rfl
theorem Nd.aU : (Str.ofString "_law_flag" == ("__debug__" : Str)) = false := by kernel_rfl
theorem Nm.aV : nm N.aV = Str.ofString "_law_place" := by kernel_rfl
theorem Nd.aV : (Str.ofString "_law_place" == ("__debug__" : Str)) = false := by kernel_rfl
theorem Nm.ac : nm N.ac = Str.ofString "_law_queue" := by kernel_rfl
theorem Nd.ac : (Str.ofString "_law_queue" == ("__debug__" : Str)) = false := by kernel_rfl
theorem Nm.M : nm N.M = Str.ofString "_law_token" := by kernel_rfl
theorem Nd.M : (Str.ofString "_law_token" == ("__debug__" : Str)) = false := by kernel_rfl
theorem Nm.aH : nm N.aH = Str.ofString "_position" := by kernel_rfl
theorem Nd.aH : (Str.ofString "_position" == ("__debug__" : Str)) = false := by kernel_rfl
theorem Nm.aj : nm N.aj = Str.ofString "asciiLetters" := by kernel_rfl
theorem Nd.aj : (Str.ofString "asciiLetters" == ("__debug__" : Str)) = false := by kernel_rfl
theorem Nm.aW : nm N.aW = Str.ofString "asciiLower" := by kernel_rfl
theorem Nd.aW : (Str.ofString "asciiLower" == ("__debug__" : Str)) = false := by kernel_rfl
theorem Nm.ao : nm N.ao = Str.ofString "attributeNameState" := by kernel_rfl
theorem Nd.ao : (Str.ofString "attributeNameState" == ("__debug__" : Str)) = false := by kernel_rfl
theorem Nm.aI : nm N.aI = Str.ofString "beforeAttributeNameState" := by kernel_rfl
theorem Nd.aI : (Str.ofString "beforeAttributeNameState" == ("__debug__" : Str)) = false := by kernel_rfl
theorem Nm.ak : nm N.ak = Str.ofString "bogusCommentState" := by kernel_rfl
theorem Nd.ak : (Str.ofString "bogusCommentState" == ("__debug__" : Str)) = false := by kernel_rfl
theorem Nm.s : nm N.s = Str.ofString "c" := by kernel_rfl
theorem Nd.s : (Str.ofString "c" == ("__debug__" : Str)) = false := by kernel_rfl
theorem Nm.Q : nm N.Q = Str.ofString "cells" := by kernel_rfl
theorem Nd.Q : (Str.ofString "cells" == ("__debug__" : Str)) = false := by kernel_rfl
theorem Nm.u : nm N.u = Str.ofString "char" := by kernel_rfl
theorem Nd.u : (Str.ofString "char" == ("__debug__" : Str)) = false := by kernel_rfl
theorem Nm.l : nm N.l = Str.ofString "charStack" := by kernel_rfl
theorem Nd.l : (Str.ofString "charStack" == ("__debug__" : Str)) = false := by kernel_rfl
theorem Nm.bc : nm N.bc = Str.ofString "characterErrorsUCS4" := by kernel_rfl
theorem Nd.bc : (Str.ofString "characterErrorsUCS4" == ("__debug__" : Str)) = false := by kernel_rfl
theorem Nm.ag : nm N.ag = Str.ofString "characters" := by kernel_rfl
theorem Nd.ag : (Str.ofString "characters" == ("__debug__" : Str)) = false := by kernel_rfl
theorem Nm.aJ : nm N.aJ = Str.ofString "chars" := by kernel_rfl
theorem Nd.aJ : (Str.ofString "chars" == ("__debug__" : Str)) = false := by kernel_rfl
theorem Nm.N : nm N.N = Str.ofString "charsUntil" := by kernel_rfl
theorem Nd.N : (Str.ofString "charsUntil" == ("__debug__" : Str)) = false := by kernel_rfl
theorem Nm.aK : nm N.aK = Str.ofString "chr" := by kernel_rfl
theorem Nd.aK : (Str.ofString "chr" == ("__debug__" : Str)) = false := by kernel_rfl
theorem Nm.z : nm N.z = Str.ofString "chunk" := by kernel_rfl
theorem Nd.z : (Str.ofString "chunk" == ("__debug__" : Str)) = false := by kernel_rfl
theorem Nm.r : nm N.r = Str.ofString "chunkOffset" := by kernel_rfl
theorem Nd.r : (Str.ofString "chunkOffset" == ("__debug__" : Str)) = false := by kernel_rfl
theorem Nm.w : nm N.w = Str.ofString "chunkSize" := by kernel_rfl
theorem Nd.w : (Str.ofString "chunkSize" == ("__debug__" : Str)) = false := by kernel_rfl
theorem Nm.ap : nm N.ap = Str.ofString "closeTagOpenState" := by kernel_rfl
theorem Nd.ap : (Str.ofString "closeTagOpenState" == ("__debug__" : Str)) = false := by kernel_rfl
theorem Nm.G : nm N.G = Str.ofString "codepoint" := by kernel_rfl
theorem Nd.G : (Str.ofString "codepoint" == ("__debug__" : Str)) = false := by kernel_rfl
theorem Nm.aX : nm N.aX = Str.ofString "col" := by kernel_rfl
theorem Nd.aX : (Str.ofString "col" == ("__debug__" : Str)) = false := by kernel_rfl
theorem Nm.al : nm N.al = Str.ofString "column" := by kernel_rfl
theorem Nd.al : (Str.ofString "column" == ("__debug__" : Str)) = false := by kernel_rfl
theorem Nm.bd : nm N.bd = Str.ofString "commentStartState" := by kernel_rfl
theorem Nd.bd : (Str.ofString "commentStartState" == ("__debug__" : Str)) = false := by kernel_rfl
theorem Nm.av : nm N.av = Str.ofString "correct" := by kernel_rfl
theorem Nd.av : (Str.ofString "correct" == ("__debug__" : Str)) = false := by kernel_rfl
theorem Nm.m : nm N.m = Str.ofString "currentToken" := by kernel_rfl
theorem Nd.m : (Str.ofString "currentToken" == ("__debug__" : Str)) = false := by kernel_rfl
theorem Nm.b : nm N.b = Str.ofString "data" := by kernel_rfl
theorem Nd.b : (Str.ofString "data" == ("__debug__" : Str)) = false := by kernel_rfl
theorem Nm.F : nm N.F = Str.ofString "dataState" := by kernel_rfl
theorem Nd.F : (Str.ofString "dataState" == ("__debug__" : Str)) = false := by kernel_rfl
theorem Nm.V : nm N.V = Str.ofString "dataStream" := by kernel_rfl
theorem Nd.V : (Str.ofString "dataStream" == ("__debug__" : Str)) = false := by kernel_rfl
theorem Nm.aP : nm N.aP = Str.ofString "datavars" := by kernel_rfl
theorem Nd.aP : (Str.ofString "datavars" == ("__debug__" : Str)) = false := by kernel_rfl
theorem Nm.aL : nm N.aL = Str.ofString "dict" := by kernel_rfl
theorem Nd.aL : (Str.ofString "dict" == ("__debug__" : Str)) = false := by kernel_rfl
theorem Nm.be : nm N.be = Str.ofString "doctypeState" := by kernel_rfl
theorem Nd.be : (Str.ofString "doctypeState" == ("__debug__" : Str)) = false := by kernel_rfl
theorem Nm.y : nm N.y = Str.ofString "due" := by kernel_rfl
theorem Nd.y : (Str.ofString "due" == ("__debug__" : Str)) = false := by kernel_rfl
theorem Nm.aw : nm N.aw = Str.ofString "emitCurrentToken" := by kernel_rfl
theorem Nd.aw : (Str.ofString "emitCurrentToken" == ("__debug__" : Str)) = false := by kernel_rfl
theorem Nm.f : nm N.f = Str.ofString "end" := by kernel_rfl
theorem Nd.f : (Str.ofString "end" == ("__debug__" : Str)) = false := by kernel_rfl
theorem Nm.R : nm N.R = Str.ofString "ender" := by kernel_rfl
theorem Nd.R : (Str.ofString "ender" == ("__debug__" : Str)) = false := by kernel_rfl
theorem Nm.bm : nm N.bm = Str.ofString "entityDataState" := by kernel_rfl
theorem Nd.bm : (Str.ofString "entityDataState" == ("__debug__" : Str)) = false := by kernel_rfl
theorem Nm.ax : nm N.ax = Str.ofString "errors" := by kernel_rfl
theorem Nd.ax : (Str.ofString "errors" == ("__debug__" : Str)) = false := by kernel_rfl
theorem Nm.aQ : nm N.aQ = Str.ofString "escape" := by kernel_rfl
theorem Nd.aQ : (Str.ofString "escape" == ("__debug__" : Str)) = false := by kernel_rfl
theorem Nm.O : nm N.O = Str.ofString "escapeFlag" := by kernel_rfl
theorem Nd.O : (Str.ofString "escapeFlag" == ("__debug__" : Str)) = false := by kernel_rfl
theorem Nm.X : nm N.X = Str.ofString "expected" := by kernel_rfl
theorem Nd.X : (Str.ofString "expected" == ("__debug__" : Str)) = false := by kernel_rfl
theorem Nm.B : nm N.B = Str.ofString "first" := by kernel_rfl
theorem Nd.B : (Str.ofString "first" == ("__debug__" : Str)) = false := by kernel_rfl
theorem Nm.ay : nm N.ay = Str.ofString "flag" := by kernel_rfl
theorem Nd.ay : (Str.ofString "flag" == ("__debug__" : Str)) = false := by kernel_rfl
theorem Nm.p : nm N.p = Str.ofString "follow" := by kernel_rfl
theorem Nd.p : (Str.ofString "follow" == ("__debug__" : Str)) = false := by kernel_rfl
theorem Nm.Y : nm N.Y = Str.ofString "gone" := by kernel_rfl
theorem Nd.Y : (Str.ofString "gone" == ("__debug__" : Str)) = false := by kernel_rfl
theorem Nm.bf : nm N.bf = Str.ofString "isinstance" := by kernel_rfl
theorem Nd.bf : (Str.ofString "isinstance" == ("__debug__" : Str)) = false := by kernel_rfl
theorem Nm.ad : nm N.ad = Str.ofString "k" := by kernel_rfl
theorem Nd.ad : (Str.ofString "k" == ("__debug__" : Str)) = false := by kernel_rfl
theorem Nm.n : nm N.n = Str.ofString "kind" := by kernel_rfl
theorem Nd.n : (Str.ofString "kind" == ("__debug__" : Str)) = false := by kernel_rfl
theorem Nm.ab : nm N.ab = Str.ofString "lastFourChars" := by kernel_rfl
theorem Nd.ab : (Str.ofString "lastFourChars" == ("__debug__" : Str)) = false := by kernel_rfl
theorem Nm.az : nm N.az = Str.ofString "lastLinePos" := by kernel_rfl
theorem Nd.az : (Str.ofString "lastLinePos" == ("__debug__" : Str)) = false := by kernel_rfl
theorem Nm.ah : nm N.ah = Str.ofString "lastv" := by kernel_rfl
theorem Nd.ah : (Str.ofString "lastv" == ("__debug__" : Str)) = false := by kernel_rfl
theorem Nm.H : nm N.H = Str.ofString "len" := by kernel_rfl
theorem Nd.H : (Str.ofString "len" == ("__debug__" : Str)) = false := by kernel_rfl
theorem Nm.ae : nm N.ae = Str.ofString "line" := by kernel_rfl
theorem Nd.ae : (Str.ofString "line" == ("__debug__" : Str)) = false := by kernel_rfl
theorem Nm.aY : nm N.aY = Str.ofString "markupDeclarationOpenState" := by kernel_rfl
theorem Nd.aY : (Str.ofString "markupDeclarationOpenState" == ("__debug__" : Str)) = false := by kernel_rfl
theorem Nm.S : nm N.S = Str.ofString "matched" := by kernel_rfl
theorem Nd.S : (Str.ofString "matched" == ("__debug__" : Str)) = false := by kernel_rfl
theorem Nm.o : nm N.o = Str.ofString "mended" := by kernel_rfl
theorem Nd.o : (Str.ofString "mended" == ("__debug__" : Str)) = false := by kernel_rfl
theorem Nm.bg : nm N.bg = Str.ofString "min" := by kernel_rfl
theorem Nd.bg : (Str.ofString "min" == ("__debug__" : Str)) = false := by kernel_rfl
theorem Nm.aq : nm N.aq = Str.ofString "n" := by kernel_rfl
theorem Nd.aq : (Str.ofString "n" == ("__debug__" : Str)) = false := by kernel_rfl
theorem Nm.aZ : nm N.aZ = Str.ofString "nLines" := by kernel_rfl
theorem Nd.aZ : (Str.ofString "nLines" == ("__debug__" : Str)) = false := by kernel_rfl
theorem Nm.k : nm N.k = Str.ofString "name" := by kernel_rfl
theorem Nd.k : (Str.ofString "name" == ("__debug__" : Str)) = false := by kernel_rfl
theorem Nm.P : nm N.P = Str.ofString "newLines" := by kernel_rfl
theorem Nd.P : (Str.ofString "newLines" == ("__debug__" : Str)) = false := by kernel_rfl
theorem Nm.Z : nm N.Z = Str.ofString "offset" := by kernel_rfl
theorem Nd.Z : (Str.ofString "offset" == ("__debug__" : Str)) = false := by kernel_rfl
theorem Nm.bh : nm N.bh = Str.ofString "openStream" := by kernel_rfl
theorem Nd.bh : (Str.ofString "openStream" == ("__debug__" : Str)) = false := by kernel_rfl
theorem Nm.ai : nm N.ai = Str.ofString "opposite" := by kernel_rfl
theorem Nd.ai : (Str.ofString "opposite" == ("__debug__" : Str)) = false := by kernel_rfl
theorem Nm.af : nm N.af = Str.ofString "ord" := by kernel_rfl
theorem Nd.af : (Str.ofString "ord" == ("__debug__" : Str)) = false := by kernel_rfl
theorem Nm.aa : nm N.aa = Str.ofString "other" := by kernel_rfl
theorem Nd.aa : (Str.ofString "other" == ("__debug__" : Str)) = false := by kernel_rfl
theorem Nm.E : nm N.E = Str.ofString "parser" := by kernel_rfl
theorem Nd.E : (Str.ofString "parser" == ("__debug__" : Str)) = false := by kernel_rfl
theorem Nm.aA : nm N.aA = Str.ofString "part" := by kernel_rfl
theorem Nd.aA : (Str.ofString "part" == ("__debug__" : Str)) = false := by kernel_rfl
theorem Nm.am : nm N.am = Str.ofString "place" := by kernel_rfl
theorem Nd.am : (Str.ofString "place" == ("__debug__" : Str)) = false := by kernel_rfl
theorem Nm.a0 : nm N.a0 = Str.ofString "position" := by kernel_rfl
theorem Nd.a0 : (Str.ofString "position" == ("__debug__" : Str)) = false := by kernel_rfl
theorem Nm.aM : nm N.aM = Str.ofString "positionColumn" := by kernel_rfl
theorem Nd.aM : (Str.ofString "positionColumn" == ("__debug__" : Str)) = false := by kernel_rfl
theorem Nm.a1 : nm N.a1 = Str.ofString "positionLine" := by kernel_rfl
theorem Nd.a1 : (Str.ofString "positionLine" == ("__debug__" : Str)) = false := by kernel_rfl
theorem Nm.ar : nm N.ar = Str.ofString "prevNumCols" := by kernel_rfl
theorem Nd.ar : (Str.ofString "prevNumCols" == ("__debug__" : Str)) = false := by kernel_rfl
theorem Nm.as : nm N.as = Str.ofString "prevNumLines" := by kernel_rfl
theorem Nd.as : (Str.ofString "prevNumLines" == ("__debug__" : Str)) = false := by kernel_rfl
theorem Nm.aB : nm N.aB = Str.ofString "publicId" := by kernel_rfl
theorem Nd.aB : (Str.ofString "publicId" == ("__debug__" : Str)) = false := by kernel_rfl
theorem Nm.au : nm N.au = Str.ofString "r" := by kernel_rfl
theorem Nd.au : (Str.ofString "r" == ("__debug__" : Str)) = false := by kernel_rfl
theorem Nm.bi : nm N.bi = Str.ofString "range" := by kernel_rfl
theorem Nd.bi : (Str.ofString "range" == ("__debug__" : Str)) = false := by kernel_rfl
theorem Nm.aC : nm N.aC = Str.ofString "raw" := by kernel_rfl
theorem Nd.aC : (Str.ofString "raw" == ("__debug__" : Str)) = false := by kernel_rfl
theorem Nm.bj : nm N.bj = Str.ofString "read" := by kernel_rfl
theorem Nd.bj : (Str.ofString "read" == ("__debug__" : Str)) = false := by kernel_rfl
theorem Nm.aD : nm N.aD = Str.ofString "readChunk" := by kernel_rfl
theorem Nd.aD : (Str.ofString "readChunk" == ("__debug__" : Str)) = false := by kernel_rfl
theorem Nm.C : nm N.C = Str.ofString "reportCharacterErrors" := by kernel_rfl
theorem Nd.C : (Str.ofString "reportCharacterErrors" == ("__debug__" : Str)) = false := by kernel_rfl
theorem Nm.bk : nm N.bk = Str.ofString "reset" := by kernel_rfl
theorem Nd.bk : (Str.ofString "reset" == ("__debug__" : Str)) = false := by kernel_rfl
theorem Nm.J : nm N.J = Str.ofString "rv" := by kernel_rfl
theorem Nd.J : (Str.ofString "rv" == ("__debug__" : Str)) = false := by kernel_rfl
theorem Nm.I : nm N.I = Str.ofString "script" := by kernel_rfl
theorem Nd.I : (Str.ofString "script" == ("__debug__" : Str)) = false := by kernel_rfl
theorem Nm.a : nm N.a = Str.ofString "self" := by kernel_rfl
theorem Nd.a : (Str.ofString "self" == ("__debug__" : Str)) = false := by kernel_rfl
theorem Nm.K : nm N.K = Str.ofString "selfClosing" := by kernel_rfl
theorem Nd.K : (Str.ofString "selfClosing" == ("__debug__" : Str)) = false := by kernel_rfl
theorem Nm.a2 : nm N.a2 = Str.ofString "selfClosingAcknowledged" := by kernel_rfl
theorem Nd.a2 : (Str.ofString "selfClosingAcknowledged" == ("__debug__" : Str)) = false := by kernel_rfl
theorem Nm.aN : nm N.aN = Str.ofString "selfClosingStartTagState" := by kernel_rfl
theorem Nd.aN : (Str.ofString "selfClosingStartTagState" == ("__debug__" : Str)) = false := by kernel_rfl
theorem Nm.a3 : nm N.a3 = Str.ofString "size" := by kernel_rfl
theorem Nd.a3 : (Str.ofString "size" == ("__debug__" : Str)) = false := by kernel_rfl
theorem Nm.an : nm N.an = Str.ofString "source" := by kernel_rfl
theorem Nd.an : (Str.ofString "source" == ("__debug__" : Str)) = false := by kernel_rfl
theorem Nm.W : nm N.W = Str.ofString "spaceCharacters" := by kernel_rfl
theorem Nd.W : (Str.ofString "spaceCharacters" == ("__debug__" : Str)) = false := by kernel_rfl
theorem Nm.i : nm N.i = Str.ofString "state" := by kernel_rfl
theorem Nd.i : (Str.ofString "state" == ("__debug__" : Str)) = false := by kernel_rfl
theorem Nm.e : nm N.e = Str.ofString "stream" := by kernel_rfl
theorem Nd.e : (Str.ofString "stream" == ("__debug__" : Str)) = false := by kernel_rfl
theorem Nm.aE : nm N.aE = Str.ofString "systemId" := by kernel_rfl
theorem Nd.aE : (Str.ofString "systemId" == ("__debug__" : Str)) = false := by kernel_rfl
theorem Nm.c : nm N.c = Str.ofString "t" := by kernel_rfl
theorem Nd.c : (Str.ofString "t" == ("__debug__" : Str)) = false := by kernel_rfl
theorem Nm.t : nm N.t = Str.ofString "tag" := by kernel_rfl
theorem Nd.t : (Str.ofString "tag" == ("__debug__" : Str)) = false := by kernel_rfl
theorem Nm.aF : nm N.aF = Str.ofString "tagNameState" := by kernel_rfl
theorem Nd.aF : (Str.ofString "tagNameState" == ("__debug__" : Str)) = false := by kernel_rfl
theorem Nm.aO : nm N.aO = Str.ofString "tagOpenState" := by kernel_rfl
theorem Nd.aO : (Str.ofString "tagOpenState" == ("__debug__" : Str)) = false := by kernel_rfl
theorem Nm.bl : nm N.bl = Str.ofString "tagTokenTypes" := by kernel_rfl
theorem Nd.bl : (Str.ofString "tagTokenTypes" == ("__debug__" : Str)) = false := by kernel_rfl
theorem Nm.A : nm N.A = Str.ofString "text" := by kernel_rfl
theorem Nd.A : (Str.ofString "text" == ("__debug__" : Str)) = false := by kernel_rfl
theorem Nm.j : nm N.j = Str.ofString "token" := by kernel_rfl
theorem Nd.j : (Str.ofString "token" == ("__debug__" : Str)) = false := by kernel_rfl
theorem Nm.g : nm N.g = Str.ofString "tokenQueue" := by kernel_rfl
theorem Nd.g : (Str.ofString "tokenQueue" == ("__debug__" : Str)) = false := by kernel_rfl
theorem Nm.d : nm N.d = Str.ofString "tokenTypes" := by kernel_rfl
theorem Nd.d : (Str.ofString "tokenTypes" == ("__debug__" : Str)) = false := by kernel_rfl
theorem Nm.h : nm N.h = Str.ofString "type" := by kernel_rfl
theorem Nd.h : (Str.ofString "type" == ("__debug__" : Str)) = false := by kernel_rfl
theorem Nm.q : nm N.q = Str.ofString "u" := by kernel_rfl
theorem Nd.q : (Str.ofString "u" == ("__debug__" : Str)) = false := by kernel_rfl
theorem Nm.T : nm N.T = Str.ofString "unget" := by kernel_rfl
theorem Nd.T : (Str.ofString "unget" == ("__debug__" : Str)) = false := by kernel_rfl
theorem Nm.v : nm N.v = Str.ofString "used" := by kernel_rfl
theorem Nd.v : (Str.ofString "used" == ("__debug__" : Str)) = false := by kernel_rfl
theorem Nm.D : nm N.D = Str.ofString "way" := by kernel_rfl
theorem Nd.D : (Str.ofString "way" == ("__debug__" : Str)) = false := by kernel_rfl
theorem Nm.x : nm N.x = Str.ofString "went" := by kernel_rfl
theorem Nd.x : (Str.ofString "went" == ("__debug__" : Str)) = false := by kernel_rfl
section
variable {prog : Program} {w : World} {K : Frag} {q : Str} {f : Addr} {cd : Value}
noncomputable def T.initText : TS :=
  (ae (ah N.A (aa N.A) (aa N.a))
  (ae (ah N.am (ad (.int 0)) (aa N.a))
  aj))
noncomputable def F.initText : TF := cL (cM [N.a, N.A] []) T.initText
theorem B.initText (O : KAll w.params K) : SS prog w K 0 q (aw fd.initText) f cd (fl q (aw fd.initText) f cd) (aL fd.initText) T.initText :=
  (ai (au O.ok.toKOk Nm.A (ab Nm.A (by kernel_rfl) Nd.A) (ab Nm.a (by kernel_rfl) Nd.a) (fun _ => rfl))
  (ai (au O.ok.toKOk Nm.am bw (ab Nm.a (by kernel_rfl) Nd.a) (fun _ => rfl))
  az))
theorem S.initText (O : KAll w.params K) : SF prog w K 1 63 F.initText :=
  db (d := 0) O.finitText (by decide) (by decide +kernel) (fun _ _ _ _ _ _ _ vs h => by obtain ⟨v0, v1, rfl⟩ := d7 vs h; kernel_rfl)
    (fun h0 => absurd rfl h0) (fun h0 => absurd rfl h0)
    (fun _ => B.initText O) (by kernel_rfl) (by kernel_rfl) (by kernel_rfl) (by decide +kernel)
noncomputable def T.read : TS :=
  (ae (aR N.aA (dG (ak N.A (aa N.a)) (some (ak N.am (aa N.a))) (some (cA .Add (ak N.am (aa N.a)) (aa N.a3)))))
  (ae (d4 N.am .Add (aa N.a) (aW eT [(aa N.aA)]))
  (ae (ay (aa N.aA))
  aj)))
noncomputable def F.read : TF := cL (cM [N.a, N.a3] []) T.read
theorem B.read (O : KAll w.params K) : SS prog w K 0 q (aw fd.read) f cd (fl q (aw fd.read) f cd) (aL fd.read) T.read :=
  (ai (bD Nm.aA (by kernel_rfl) (iT (aD O.ok.toKOk Nm.A (ab Nm.a (by kernel_rfl) Nd.a) (fun _ => rfl)) (d5 (aD O.ok.toKOk Nm.am (ab Nm.a (by kernel_rfl) Nd.a) (fun _ => rfl))) (d5 (ek (aD O.ok.toKOk Nm.am (ab Nm.a (by kernel_rfl) Nd.a) (fun _ => rfl)) (ab Nm.a3 (by kernel_rfl) Nd.a3)))) (fun _ => rfl))
  (ai (ij O.ok.toKOk Nm.am (ab Nm.a (by kernel_rfl) Nd.a) (sBC kn (.inl ⟨_, rfl⟩) (O.bu _ N.H Nm.H (by decide)) rfl (by decide) (aH (by kernel_rfl) (by kernel_rfl)) Nd.H (fun _ => rfl) (.cons (ab Nm.aA (by kernel_rfl) Nd.aA) .nil) (fun _ => rfl)))
  (ai (aS (ab Nm.aA (by kernel_rfl) Nd.aA))
  az)))
theorem S.read (O : KAll w.params K) : SF prog w K 1 70 F.read :=
  db (d := 0) O.fread (by decide) (by decide +kernel) (fun _ _ _ _ _ _ _ vs h => by obtain ⟨v0, v1, rfl⟩ := d7 vs h; kernel_rfl)
    (fun h0 => absurd rfl h0) (fun h0 => absurd rfl h0)
    (fun _ => B.read O) (by kernel_rfl) (by kernel_rfl) (by kernel_rfl) (by decide +kernel)
noncomputable def T.uis_invalid : TS :=
  (ae (ay (iR tb (ju (cD tb .LtE .LtE (ad (.int 1)) (aa N.G) (ad (.int 8)))) (iR tb (dR tb .Eq (aa N.G) (ad (.int 11))) (iR tb (ju (cD tb .LtE .LtE (ad (.int 14)) (aa N.G) (ad (.int 31)))) (iR tb (ju (cD tb .LtE .LtE (ad (.int 127)) (aa N.G) (ad (.int 159)))) (iR tb (ju (cD tb .LtE .LtE (ad (.int 64976)) (aa N.G) (ad (.int 65007)))) (iR tb (dR tb .In (cA .Mod (aa N.G) (ad (.int 65536))) (bq [(ad (.int 65534)), (ad (.int 65535))])) (ju (cD tb .LtE .LtE (ad (.int 55296)) (aa N.G) (ad (.int 57343)))))))))))
  aj)
noncomputable def F.uis_invalid : TF := cL (cM [N.G] []) T.uis_invalid
theorem B.uis_invalid (O : KAll w.params K) : SS prog w K 0 q (aw fd.uis_invalid) f cd (fl q (aw fd.uis_invalid) f cd) (aL fd.uis_invalid) T.uis_invalid :=
  (ai (aS (mL (ie O.t bw (ab Nm.G (by kernel_rfl) Nd.G) bw (by with_unfolding_all rfl)) (mL (ll O.t (ab Nm.G (by kernel_rfl) Nd.G) bw (by with_unfolding_all rfl)) (mL (ie O.t bw (ab Nm.G (by kernel_rfl) Nd.G) bw (by with_unfolding_all rfl)) (mL (ie O.t bw (ab Nm.G (by kernel_rfl) Nd.G) bw (by with_unfolding_all rfl)) (mL (ie O.t bw (ab Nm.G (by kernel_rfl) Nd.G) bw (by with_unfolding_all rfl)) (mL (ll O.t (ek (ab Nm.G (by kernel_rfl) Nd.G) bw) (dy (fun _ => rfl) (.cons bw (.cons bw .nil))) (by with_unfolding_all rfl)) (rz (ie O.t bw (ab Nm.G (by kernel_rfl) Nd.G) bw (by with_unfolding_all rfl))))))))))
  az)
theorem S.uis_invalid (O : KAll w.params K) : SF prog w K 1 84 F.uis_invalid :=
  db (d := 0) O.fuis_invalid (by decide) (by decide +kernel) (fun _ _ _ _ _ _ _ vs h => by obtain ⟨v0, rfl⟩ := cB vs h; kernel_rfl)
    (fun h0 => absurd rfl h0) (fun h0 => absurd rfl h0)
    (fun _ => B.uis_invalid O) (by kernel_rfl) (by kernel_rfl) (by kernel_rfl) (by decide +kernel)
noncomputable def T.reset : TS :=
  (ae (ah N.z (ad (.str [])) (aa N.a))
  (ae (ah N.w (ad (.int 0)) (aa N.a))
  (ae (ah N.r (ad (.int 0)) (aa N.a))
  (ae (ah N.ax (cx []) (aa N.a))
  (ae (ah N.as (ad (.int 0)) (aa N.a))
  (ae (ah N.ar (ad (.int 0)) (aa N.a))
  (ae (ah N.U (ad .none) (aa N.a))
  aj)))))))
noncomputable def F.reset : TF := cL (cM [N.a] []) T.reset
theorem B.reset (O : KAll w.params K) : SS prog w K 0 q (aw fd.reset) f cd (fl q (aw fd.reset) f cd) (aL fd.reset) T.reset :=
  (ai (au O.ok.toKOk Nm.z (aC (by kernel_rfl)) (ab Nm.a (by kernel_rfl) Nd.a) (fun _ => rfl))
  (ai (au O.ok.toKOk Nm.w bw (ab Nm.a (by kernel_rfl) Nd.a) (fun _ => rfl))
  (ai (au O.ok.toKOk Nm.r bw (ab Nm.a (by kernel_rfl) Nd.a) (fun _ => rfl))
  (ai (au O.ok.toKOk Nm.ax (fE (fun _ => rfl) .nil) (ab Nm.a (by kernel_rfl) Nd.a) (fun _ => rfl))
  (ai (au O.ok.toKOk Nm.as bw (ab Nm.a (by kernel_rfl) Nd.a) (fun _ => rfl))
  (ai (au O.ok.toKOk Nm.ar bw (ab Nm.a (by kernel_rfl) Nd.a) (fun _ => rfl))
  (ai (au O.ok.toKOk Nm.U eV (ab Nm.a (by kernel_rfl) Nd.a) (fun _ => rfl))
  az)))))))
theorem S.reset (O : KAll w.params K) : SF prog w K 1 105 F.reset :=
  db (d := 0) O.freset (by decide) (by decide +kernel) (fun _ _ _ _ _ _ _ vs h => by obtain ⟨v0, rfl⟩ := cB vs h; kernel_rfl)
    (fun h0 => absurd rfl h0) (fun h0 => absurd rfl h0)
    (fun _ => B.reset O) (by kernel_rfl) (by kernel_rfl) (by kernel_rfl) (by decide +kernel)
noncomputable def T.uposition : TS :=
  (ae (aR N.z (ak N.z (aa N.a)))
  (ae (aR N.aZ (aBM 1 rC (aa N.z) [(ad (.str [10])), (ad (.int 0)), (aa N.Z)]))
  (ae (aR N.a1 (cA .Add (ak N.as (aa N.a)) (aa N.aZ)))
  (ae (aR N.az (aBM 1 rD (aa N.z) [(ad (.str [10])), (ad (.int 0)), (aa N.Z)]))
  (ae (aIf (aq tb .Eq (aa N.az) (dE (ad (.int 1)))) (ae (aR N.aM (cA .Add (ak N.ar (aa N.a)) (aa N.Z)))
  aj) (ae (aR N.aM (cA .Sub (aa N.Z) (cA .Add (aa N.az) (ad (.int 1)))))
  aj))
  (ae (ay (bq [(aa N.a1), (aa N.aM)]))
  aj))))))
noncomputable def F.uposition : TF := cL (cM [N.a, N.Z] []) T.uposition
theorem B.uposition (O : KAll w.params K) : SS prog w K 0 q (aw fd.uposition) f cd (fl q (aw fd.uposition) f cd) (aL fd.uposition) T.uposition :=
  (ai (bD Nm.z (by kernel_rfl) (aD O.ok.toKOk Nm.z (ab Nm.a (by kernel_rfl) Nd.a) (fun _ => rfl)) (fun _ => rfl))
  (ai (bD Nm.aZ (by kernel_rfl) (sBM (by decide) PySem.F.slot_str_count PySem.F.type_str_count sH (ab Nm.z (by kernel_rfl) Nd.z) (fun _ => rfl) (.cons (aC (by kernel_rfl)) (.cons bw (.cons (ab Nm.Z (by kernel_rfl) Nd.Z) .nil))) (fun _ => ⟨_, rfl⟩)) (fun _ => rfl))
  (ai (bD Nm.a1 (by kernel_rfl) (ek (aD O.ok.toKOk Nm.as (ab Nm.a (by kernel_rfl) Nd.a) (fun _ => rfl)) (ab Nm.aZ (by kernel_rfl) Nd.aZ)) (fun _ => rfl))
  (ai (bD Nm.az (by kernel_rfl) (sBM (by decide) PySem.F.slot_str_rfind PySem.F.type_str_rfind sI (ab Nm.z (by kernel_rfl) Nd.z) (fun _ => rfl) (.cons (aC (by kernel_rfl)) (.cons bw (.cons (ab Nm.Z (by kernel_rfl) Nd.Z) .nil))) (fun _ => ⟨_, rfl⟩)) (fun _ => rfl))
  (ai (sIf (aJ O.t (ab Nm.az (by kernel_rfl) Nd.az) (kr bw) (by with_unfolding_all rfl)) (ai (bD Nm.aM (by kernel_rfl) (ek (aD O.ok.toKOk Nm.ar (ab Nm.a (by kernel_rfl) Nd.a) (fun _ => rfl)) (ab Nm.Z (by kernel_rfl) Nd.Z)) (fun _ => rfl))
  az) (ai (bD Nm.aM (by kernel_rfl) (ek (ab Nm.Z (by kernel_rfl) Nd.Z) (ek (ab Nm.az (by kernel_rfl) Nd.az) bw)) (fun _ => rfl))
  az))
  (ai (aS (dy (fun _ => rfl) (.cons (ab Nm.a1 (by kernel_rfl) Nd.a1) (.cons (ab Nm.aM (by kernel_rfl) Nd.aM) .nil))))
  az))))))
theorem S.uposition (O : KAll w.params K) : SF prog w K 1 119 F.uposition :=
  db (d := 0) O.fuposition (by decide) (by decide +kernel) (fun _ _ _ _ _ _ _ vs h => by obtain ⟨v0, v1, rfl⟩ := d7 vs h; kernel_rfl)
    (fun h0 => absurd rfl h0) (fun h0 => absurd rfl h0)
    (fun _ => B.uposition O) (by kernel_rfl) (by kernel_rfl) (by kernel_rfl) (by decide +kernel)
noncomputable def T.unget : TS :=
  (ae (aIf (aq tb .IsNot (aa N.u) (ad (.none))) (ae (aIf (aq tb .Eq (ak N.r (aa N.a)) (ad (.int 0))) (ae (ah N.z (cA .Add (aa N.u) (ak N.z (aa N.a))) (aa N.a))
  (ae (d4 N.w .Add (aa N.a) (ad (.int 1)))
  aj)) (ae (d4 N.r .Sub (aa N.a) (ad (.int 1)))
  (ae (jy (aq tb .Eq (aU tb (ak N.z (aa N.a)) (ak N.r (aa N.a))) (aa N.u)))
  aj)))
  aj) aj)
  aj)
noncomputable def F.unget : TF := cL (cM [N.a, N.u] []) T.unget
theorem B.unget (O : KAll w.params K) : SS prog w K 0 q (aw fd.unget) f cd (fl q (aw fd.unget) f cd) (aL fd.unget) T.unget :=
  (ai (sIf (aJ O.t (ab Nm.u (by kernel_rfl) Nd.u) (aN O Nm.L (n := N.L) (by rfl) (aH (by kernel_rfl) (by kernel_rfl)) Nd.L) (by with_unfolding_all rfl)) (ai (sIf (aJ O.t (aD O.ok.toKOk Nm.r (ab Nm.a (by kernel_rfl) Nd.a) (fun _ => rfl)) bw (by with_unfolding_all rfl)) (ai (au O.ok.toKOk Nm.z (ek (ab Nm.u (by kernel_rfl) Nd.u) (aD O.ok.toKOk Nm.z (ab Nm.a (by kernel_rfl) Nd.a) (fun _ => rfl))) (ab Nm.a (by kernel_rfl) Nd.a) (fun _ => rfl))
  (ai (ij O.ok.toKOk Nm.w (ab Nm.a (by kernel_rfl) Nd.a) bw)
  az)) (ai (ij O.ok.toKOk Nm.r (ab Nm.a (by kernel_rfl) Nd.a) bw)
  (ai (pz (aJ O.t (bV O.t (aD O.ok.toKOk Nm.z (ab Nm.a (by kernel_rfl) Nd.a) (fun _ => rfl)) (aD O.ok.toKOk Nm.r (ab Nm.a (by kernel_rfl) Nd.a) (fun _ => rfl)) (fun _ _ => rfl)) (ab Nm.u (by kernel_rfl) Nd.u) (by with_unfolding_all rfl)))
  az)))
  az) az)
  az)
theorem S.unget (O : KAll w.params K) : SF prog w K 1 163 F.unget :=
  db (d := 0) O.funget (by decide) (by decide +kernel) (fun _ _ _ _ _ _ _ vs h => by obtain ⟨v0, v1, rfl⟩ := d7 vs h; kernel_rfl)
    (fun h0 => absurd rfl h0) (fun h0 => absurd rfl h0)
    (fun _ => B.unget O) (by kernel_rfl) (by kernel_rfl) (by kernel_rfl) (by decide +kernel)
noncomputable def T.asciiLower : TS :=
  (ae (ay (aBM 1 d6 (ad (.str [])) [(dK tb (aa N.A) N.s (fun C j => (aB true)) (fun C j => (dw (cD tb .LtE .LtE (ad (.str [65])) (cN C j N.s) (ad (.str [90]))) (aW nQ [(cA .Add (aW jF [(cN C j N.s)]) (ad (.int 32)))]) (cN C j N.s))))]))
  aj)
noncomputable def F.asciiLower : TF := cL (cM [N.A] []) T.asciiLower
theorem B.asciiLower (O : KAll w.params K) : SS prog w K 0 q (aw fd.asciiLower) f cd (fl q (aw fd.asciiLower) f cd) (aL fd.asciiLower) T.asciiLower :=
  (ai (aS (sBM (by decide) PySem.F.slot_str_join PySem.F.type_str_join mM (aC (by kernel_rfl)) (fun _ => rfl) (.cons (lZ O.t Nm.s (by decide +kernel) (by decide +kernel) (by kernel_rfl) (by decide +kernel) (by kernel_rfl) (ab Nm.A (by kernel_rfl) Nd.A) (fun C j => gQ) (fun C j => (ig (jv O.t (aC (by kernel_rfl)) (f6 Nm.s (by kernel_rfl) (by kernel_rfl) Nd.s) (aC (by kernel_rfl)) (by with_unfolding_all rfl)) (sBC rB (.inl ⟨_, rfl⟩) (O.bu _ N.aK Nm.aK (by decide)) rfl (by decide) (jb (by kernel_rfl) (by kernel_rfl)) Nd.aK (fun _ => rfl) (.cons (ek (sBC pE (.inl ⟨_, rfl⟩) (O.bu _ N.af Nm.af (by decide)) rfl (by decide) (jb (by kernel_rfl) (by kernel_rfl)) Nd.af (fun _ => rfl) (.cons (f6 Nm.s (by kernel_rfl) (by kernel_rfl) Nd.s) .nil) (fun _ => rfl)) bw) .nil) (fun _ => rfl)) (f6 Nm.s (by kernel_rfl) (by kernel_rfl) Nd.s))) (fun _ _ => rfl)) .nil) (fun _ => ⟨_, rfl⟩)))
  az)
theorem S.asciiLower (O : KAll w.params K) : SF prog w K 1 42 F.asciiLower :=
  db (d := 0) O.fasciiLower (by decide) (by decide +kernel) (fun _ _ _ _ _ _ _ vs h => by obtain ⟨v0, rfl⟩ := cB vs h; kernel_rfl)
    (fun h0 => absurd rfl h0) (fun h0 => absurd rfl h0)
    (fun _ => B.asciiLower O) (by kernel_rfl) (by kernel_rfl) (by kernel_rfl) (by decide +kernel)
noncomputable def T.ulaw_place : TS :=
  (ae (aR N.ae (ad (.int 1)))
  (ae (aR N.al (ad (.int 0)))
  (ae (mN tb (dG (aa N.o) none (some (aa N.v))) (aY N.s) (ae (c8 N.al .Add (ad (.int 1)))
  (ae (aIf (aq tb .Eq (aa N.s) (ad (.str [10]))) (ae (c8 N.ae .Add (ad (.int 1)))
  (ae (aR N.al (ad (.int 0)))
  aj)) aj)
  aj)))
  (ae (ay (bq [(aa N.ae), (aa N.al)]))
  aj))))
noncomputable def F.ulaw_place : TF := cL (cM [N.o, N.v] []) T.ulaw_place
theorem B.ulaw_place (O : KAll w.params K) : SS prog w K 0 q (aw fd.ulaw_place) f cd (fl q (aw fd.ulaw_place) f cd) (aL fd.ulaw_place) T.ulaw_place :=
  (ai (bD Nm.ae (by kernel_rfl) bw (fun _ => rfl))
  (ai (bD Nm.al (by kernel_rfl) bw (fun _ => rfl))
  (ai (qU O.t (iT (ab Nm.o (by kernel_rfl) Nd.o) ik (d5 (ab Nm.v (by kernel_rfl) Nd.v))) (c9 Nm.s (by kernel_rfl)) (ai (fU Nm.al (by kernel_rfl) bw)
  (ai (sIf (aJ O.t (ab Nm.s (by kernel_rfl) Nd.s) (aC (by kernel_rfl)) (by with_unfolding_all rfl)) (ai (fU Nm.ae (by kernel_rfl) bw)
  (ai (bD Nm.al (by kernel_rfl) bw (fun _ => rfl))
  az)) az)
  az)) (fun _ _ => rfl) (fun _ _ => rfl))
  (ai (aS (dy (fun _ => rfl) (.cons (ab Nm.ae (by kernel_rfl) Nd.ae) (.cons (ab Nm.al (by kernel_rfl) Nd.al) .nil))))
  az))))
theorem S.ulaw_place (O : KAll w.params K) : SF prog w K 1 801 F.ulaw_place :=
  db (d := 0) O.fulaw_place (by decide) (by decide +kernel) (fun _ _ _ _ _ _ _ vs h => by obtain ⟨v0, v1, rfl⟩ := d7 vs h; kernel_rfl)
    (fun h0 => absurd rfl h0) (fun h0 => absurd rfl h0)
    (fun _ => B.ulaw_place O) (by kernel_rfl) (by kernel_rfl) (by kernel_rfl) (by decide +kernel)
noncomputable def T.ulaw_flag : TS :=
  (ae (ay (dw (aq tb .Is (aa N.ay) (ad (.bool true))) (ad (.str [121, 101, 115])) (dw (aq tb .Is (aa N.ay) (ad (.bool false))) (ad (.str [110, 111])) (ad (.str [110, 101, 105, 116, 104, 101, 114])))))
  aj)
noncomputable def F.ulaw_flag : TF := cL (cM [N.ay] []) T.ulaw_flag
theorem B.ulaw_flag (O : KAll w.params K) : SS prog w K 0 q (aw fd.ulaw_flag) f cd (fl q (aw fd.ulaw_flag) f cd) (aL fd.ulaw_flag) T.ulaw_flag :=
  (ai (aS (ig (aJ O.t (ab Nm.ay (by kernel_rfl) Nd.ay) bG (by with_unfolding_all rfl)) (aC (by kernel_rfl)) (ig (aJ O.t (ab Nm.ay (by kernel_rfl) Nd.ay) bG (by with_unfolding_all rfl)) (aC (by kernel_rfl)) (aC (by kernel_rfl)))))
  az)
theorem S.ulaw_flag (O : KAll w.params K) : SF prog w K 1 808 F.ulaw_flag :=
  db (d := 0) O.fulaw_flag (by decide) (by decide +kernel) (fun _ _ _ _ _ _ _ vs h => by obtain ⟨v0, rfl⟩ := cB vs h; kernel_rfl)
    (fun h0 => absurd rfl h0) (fun h0 => absurd rfl h0)
    (fun _ => B.ulaw_flag O) (by kernel_rfl) (by kernel_rfl) (by kernel_rfl) (by decide +kernel)
noncomputable def T.position : TS :=
  (ae (gu tb (aI N.aH 119 F.uposition (aa N.a) [(ak N.r (aa N.a))]) [(aY N.ae), (aY N.aX)])
  (ae (ay (bq [(cA .Add (aa N.ae) (ad (.int 1))), (aa N.aX)]))
  aj))
noncomputable def F.position : TF := cL (cM [N.a] []) T.position
theorem B.position (O : KAll w.params K) : SS prog w K 1 q (aw fd.position) f cd (fl q (aw fd.position) f cd) (aL fd.position) T.position :=
  (ai (pI O.t (bC O.ok.toKOk Nm.aH ((S.uposition O).up (by decide)) (ab Nm.a (by kernel_rfl) Nd.a) (fun _ => rfl) (.cons (aD O.ok.toKOk Nm.r (ab Nm.a (by kernel_rfl) Nd.a) (fun _ => rfl)) .nil) (fun _ => ⟨_, rfl⟩)) (.cons (c9 Nm.ae (by kernel_rfl)) (fun _ _ => rfl) (.cons (c9 Nm.aX (by kernel_rfl)) (fun _ _ => rfl) .nil)) (fun _ => rfl) (fun _ => rfl))
  (ai (aS (dy (fun _ => rfl) (.cons (ek (ab Nm.ae (by kernel_rfl) Nd.ae) bw) (.cons (ab Nm.aX (by kernel_rfl) Nd.aX) .nil))))
  az))
theorem S.position (O : KAll w.params K) : SF prog w K 2 126 F.position :=
  db (d := 1) O.fposition (by decide) (by decide +kernel) (fun _ _ _ _ _ _ _ vs h => by obtain ⟨v0, rfl⟩ := cB vs h; kernel_rfl)
    (fun h0 => absurd rfl h0) (fun h0 => absurd rfl h0)
    (fun _ => B.position O) (by kernel_rfl) (by kernel_rfl) (by kernel_rfl) (by decide +kernel)
noncomputable def T.characterErrorsUCS4 : TS :=
  (ae (mN tb (aa N.b) (aY N.s) (ae (aIf (bY tb (aW F.uis_invalid [(aW jF [(aa N.s)])])) (ae (aK (aBM 2 bP (ak N.ax (aa N.a)) [(ad (.str [105, 110, 118, 97, 108, 105, 100, 45, 99, 111, 100, 101, 112, 111, 105, 110, 116]))]))
  aj) aj)
  aj))
  aj)
noncomputable def F.characterErrorsUCS4 : TF := cL (cM [N.a, N.b] []) T.characterErrorsUCS4
theorem B.characterErrorsUCS4 (O : KAll w.params K) : SS prog w K 1 q (aw fd.characterErrorsUCS4) f cd (fl q (aw fd.characterErrorsUCS4) f cd) (aL fd.characterErrorsUCS4) T.characterErrorsUCS4 :=
  (ai (qU O.t (ab Nm.b (by kernel_rfl) Nd.b) (c9 Nm.s (by kernel_rfl)) (ai (sIf (eX (d3 ((S.uis_invalid O).up (by decide)) (O.de _ N.aS Nm.aS (by rfl)) (O.dk N.aS (by rfl)) (aH (by kernel_rfl) (by kernel_rfl)) Nd.aS (fun _ => rfl) (.cons (sBC pE (.inl ⟨_, rfl⟩) (O.bu _ N.af Nm.af (by decide)) rfl (by decide) (aH (by kernel_rfl) (by kernel_rfl)) Nd.af (fun _ => rfl) (.cons (ab Nm.s (by kernel_rfl) Nd.s) .nil) (fun _ => rfl)) .nil) (fun _ => rfl)) (fun _ => rfl)) (ai (bj (sBM (by decide) PySem.F.slot_list_append PySem.F.type_list_append cG (aD O.ok.toKOk Nm.ax (ab Nm.a (by kernel_rfl) Nd.a) (fun _ => rfl)) (fun _ => rfl) (.cons (aC (by kernel_rfl)) .nil) (fun _ => ⟨_, rfl⟩)) (fun _ => rfl))
  az) az)
  az) (fun _ _ => rfl) (fun _ _ => rfl))
  az)
theorem S.characterErrorsUCS4 (O : KAll w.params K) : SF prog w K 2 148 F.characterErrorsUCS4 :=
  db (d := 1) O.fcharacterErrorsUCS4 (by decide) (by decide +kernel) (fun _ _ _ _ _ _ _ vs h => by obtain ⟨v0, v1, rfl⟩ := d7 vs h; kernel_rfl)
    (fun h0 => absurd rfl h0) (fun h0 => absurd rfl h0)
    (fun _ => B.characterErrorsUCS4 O) (by kernel_rfl) (by kernel_rfl) (by kernel_rfl) (by decide +kernel)
noncomputable def FTr : Nat → Option TF := fun g => bif Nat.beq g 148 then some F.characterErrorsUCS4 else none
theorem sK (O : KAll w.params K) (d : Nat) (hd : 2 ≤ d) : ∀ g Tf, FTr g = some Tf → SF prog w K d g Tf ∧ fnIn K g = true := by
  intro g Tf h
  unfold FTr at h
  cases echaracterErrorsUCS4 : Nat.beq g 148 with
  | true => rw [echaracterErrorsUCS4] at h; cases h; rw [Nat.eq_of_beq_eq_true echaracterErrorsUCS4]; exact ⟨(S.characterErrorsUCS4 O).up (by lia), O.fi0 _ (by decide)⟩
  | false =>
  rw [echaracterErrorsUCS4] at h
  cases h
noncomputable def T.emitCurrentToken : TS :=
  (ae (aR N.j (ak N.m (aa N.a)))
  (ae (aIf (aq tb .In (dB N.h (aa N.j)) (ad (.glob (.ref 49)))) (ae (dJ N.k (aW F.asciiLower [(dB N.k (aa N.j))]) (aa N.j))
  (ae (aIf (aq tb .Eq (dB N.h (aa N.j)) (aU tb (ad (.glob (.ref 48))) (ad (.str [83, 116, 97, 114, 116, 84, 97, 103])))) (ae (aR N.aC (dB N.b (aa N.j)))
  (ae (aR N.b (aW qj [(aa N.aC)]))
  (ae (aIf (aq tb .Gt (aW eT [(aa N.aC)]) (aW eT [(aa N.b)])) (ae qh
  aj) aj)
  (ae (dJ N.b (aa N.b) (aa N.j))
  aj)))) aj)
  (ae (aIf (aq tb .Eq (dB N.h (aa N.j)) (aU tb (ad (.glob (.ref 48))) (ad (.str [69, 110, 100, 84, 97, 103])))) (ae (aIf (bY tb (dB N.b (aa N.j))) (ae (aK (aBM 2 bP (ak N.g (aa N.a)) [(bh [N.h, N.b] [(aU tb (ad (.glob (.ref 48))) (ad (.str [80, 97, 114, 115, 101, 69, 114, 114, 111, 114]))), (ad (.str [97, 116, 116, 114, 105, 98, 117, 116, 101, 115, 45, 105, 110, 45, 101, 110, 100, 45, 116, 97, 103]))])]))
  aj) aj)
  (ae (aIf (bY tb (dB N.K (aa N.j))) (ae (aK (aBM 2 bP (ak N.g (aa N.a)) [(bh [N.h, N.b] [(aU tb (ad (.glob (.ref 48))) (ad (.str [80, 97, 114, 115, 101, 69, 114, 114, 111, 114]))), (ad (.str [115, 101, 108, 102, 45, 99, 108, 111, 115, 105, 110, 103, 45, 102, 108, 97, 103, 45, 111, 110, 45, 101, 110, 100, 45, 116, 97, 103]))])]))
  aj) aj)
  aj)) aj)
  aj))) aj)
  (ae (aK (aBM 2 bP (ak N.g (aa N.a)) [(aa N.j)]))
  (ae (ah N.i (bg N.F (aa N.a)) (aa N.a))
  aj))))
noncomputable def F.emitCurrentToken : TF := cL (cM [N.a] []) T.emitCurrentToken
theorem B.emitCurrentToken (O : KAll w.params K) : SS prog w K 1 q (aw fd.emitCurrentToken) f cd (fl q (aw fd.emitCurrentToken) f cd) (aL fd.emitCurrentToken) T.emitCurrentToken :=
  (ai (bD Nm.j (by kernel_rfl) (aD O.ok.toKOk Nm.m (ab Nm.a (by kernel_rfl) Nd.a) (fun _ => rfl)) (fun _ => rfl))
  (ai (sIf (aJ O.t (dS Nm.h (ab Nm.j (by kernel_rfl) Nd.j)) (aN O Nm.bl (n := N.bl) (by rfl) (aH (by kernel_rfl) (by kernel_rfl)) Nd.bl) (by with_unfolding_all rfl)) (ai (jI Nm.k (d3 ((S.asciiLower O).up (by decide)) (O.de _ N.aW Nm.aW (by rfl)) (O.dk N.aW (by rfl)) (aH (by kernel_rfl) (by kernel_rfl)) Nd.aW (fun _ => rfl) (.cons (dS Nm.k (ab Nm.j (by kernel_rfl) Nd.j)) .nil) (fun _ => rfl)) (ab Nm.j (by kernel_rfl) Nd.j) (fun _ => rfl))
  (ai (sIf (aJ O.t (dS Nm.h (ab Nm.j (by kernel_rfl) Nd.j)) (bV O.t (aN O Nm.d (n := N.d) (by rfl) (aH (by kernel_rfl) (by kernel_rfl)) Nd.d) (aC (by kernel_rfl)) (fun _ _ => rfl)) (by with_unfolding_all rfl)) (ai (bD Nm.aC (by kernel_rfl) (dS Nm.b (ab Nm.j (by kernel_rfl) Nd.j)) (fun _ => rfl))
  (ai (bD Nm.b (by kernel_rfl) (sBC nY (.inr ⟨_, rfl⟩) (O.bu _ N.aL Nm.aL (by decide)) rfl (by decide) (aH (by kernel_rfl) (by kernel_rfl)) Nd.aL (fun _ => rfl) (.cons (ab Nm.aC (by kernel_rfl) Nd.aC) .nil) (fun _ => rfl)) (fun _ => rfl))
  (ai (sIf (aJ O.t (sBC kn (.inl ⟨_, rfl⟩) (O.bu _ N.H Nm.H (by decide)) rfl (by decide) (aH (by kernel_rfl) (by kernel_rfl)) Nd.H (fun _ => rfl) (.cons (ab Nm.aC (by kernel_rfl) Nd.aC) .nil) (fun _ => rfl)) (sBC kn (.inl ⟨_, rfl⟩) (O.bu _ N.H Nm.H (by decide)) rfl (by decide) (aH (by kernel_rfl) (by kernel_rfl)) Nd.H (fun _ => rfl) (.cons (ab Nm.b (by kernel_rfl) Nd.b) .nil) (fun _ => rfl)) (by with_unfolding_all rfl)) (ai rF
  az) az)
  (ai (jI Nm.b (ab Nm.b (by kernel_rfl) Nd.b) (ab Nm.j (by kernel_rfl) Nd.j) (fun _ => rfl))
  az)))) az)
  (ai (sIf (aJ O.t (dS Nm.h (ab Nm.j (by kernel_rfl) Nd.j)) (bV O.t (aN O Nm.d (n := N.d) (by rfl) (aH (by kernel_rfl) (by kernel_rfl)) Nd.d) (aC (by kernel_rfl)) (fun _ _ => rfl)) (by with_unfolding_all rfl)) (ai (sIf (eX (dS Nm.b (ab Nm.j (by kernel_rfl) Nd.j)) (fun _ => rfl)) (ai (bj (sBM (by decide) PySem.F.slot_list_append PySem.F.type_list_append cG (aD O.ok.toKOk Nm.g (ab Nm.a (by kernel_rfl) Nd.a) (fun _ => rfl)) (fun _ => rfl) (.cons (bZ (by kernel_rfl) rfl (List.cons_ne_nil _ _) (Nat.le_of_ble_eq_true rfl) (.cons (bV O.t (aN O Nm.d (n := N.d) (by rfl) (aH (by kernel_rfl) (by kernel_rfl)) Nd.d) (aC (by kernel_rfl)) (fun _ _ => rfl)) (.cons (aC (by kernel_rfl)) .nil))) .nil) (fun _ => ⟨_, rfl⟩)) (fun _ => rfl))
  az) az)
  (ai (sIf (eX (dS Nm.K (ab Nm.j (by kernel_rfl) Nd.j)) (fun _ => rfl)) (ai (bj (sBM (by decide) PySem.F.slot_list_append PySem.F.type_list_append cG (aD O.ok.toKOk Nm.g (ab Nm.a (by kernel_rfl) Nd.a) (fun _ => rfl)) (fun _ => rfl) (.cons (bZ (by kernel_rfl) rfl (List.cons_ne_nil _ _) (Nat.le_of_ble_eq_true rfl) (.cons (bV O.t (aN O Nm.d (n := N.d) (by rfl) (aH (by kernel_rfl) (by kernel_rfl)) Nd.d) (aC (by kernel_rfl)) (fun _ _ => rfl)) (.cons (aC (by kernel_rfl)) .nil))) .nil) (fun _ => ⟨_, rfl⟩)) (fun _ => rfl))
  az) az)
  az)) az)
  az))) az)
  (ai (bj (sBM (by decide) PySem.F.slot_list_append PySem.F.type_list_append cG (aD O.ok.toKOk Nm.g (ab Nm.a (by kernel_rfl) Nd.a) (fun _ => rfl)) (fun _ => rfl) (.cons (ab Nm.j (by kernel_rfl) Nd.j) .nil) (fun _ => ⟨_, rfl⟩)) (fun _ => rfl))
  (ai (au O.ok.toKOk Nm.i (bE O.ok Nm.F (ab Nm.a (by kernel_rfl) Nd.a) (fun _ => rfl)) (ab Nm.a (by kernel_rfl) Nd.a) (fun _ => rfl))
  az))))
theorem S.emitCurrentToken (O : KAll w.params K) : SF prog w K 2 297 F.emitCurrentToken :=
  db (d := 1) O.femitCurrentToken (by decide) (by decide +kernel) (fun _ _ _ _ _ _ _ vs h => by obtain ⟨v0, rfl⟩ := cB vs h; kernel_rfl)
    (fun h0 => absurd rfl h0) (fun h0 => absurd rfl h0)
    (fun _ => B.emitCurrentToken O) (by kernel_rfl) (by kernel_rfl) (by kernel_rfl) (by decide +kernel)
noncomputable def T.ulaw_token : TS :=
  (ae (aR N.n (dB N.h (aa N.j)))
  (ae (aIf (aOr (aq tb .Eq (aa N.n) (aU tb (ad (.glob (.ref 48))) (ad (.str [83, 116, 97, 114, 116, 84, 97, 103])))) (aOr (aq tb .Eq (aa N.n) (aU tb (ad (.glob (.ref 48))) (ad (.str [69, 110, 100, 84, 97, 103])))) (aB false))) (ae (ay (bq [(aa N.n), (dB N.k (aa N.j)), (aW eT [(dB N.b (aa N.j))]), (aW F.ulaw_flag [(dB N.K (aa N.j))]), (aW jG [(dB N.b (aa N.j)), (ad (.glob (.type "dict")))])]))
  aj) aj)
  (ae (aIf (aq tb .Eq (aa N.n) (aU tb (ad (.glob (.ref 48))) (ad (.str [68, 111, 99, 116, 121, 112, 101])))) (ae (ay (bq [(aa N.n), (dB N.k (aa N.j)), (dB N.aB (aa N.j)), (dB N.aE (aa N.j)), (dB N.av (aa N.j))]))
  aj) aj)
  (ae (ay (bq [(aa N.n), (dB N.b (aa N.j))]))
  aj))))
noncomputable def F.ulaw_token : TF := cL (cM [N.j] []) T.ulaw_token
theorem B.ulaw_token (O : KAll w.params K) : SS prog w K 1 q (aw fd.ulaw_token) f cd (fl q (aw fd.ulaw_token) f cd) (aL fd.ulaw_token) T.ulaw_token :=
  (ai (bD Nm.n (by kernel_rfl) (dS Nm.h (ab Nm.j (by kernel_rfl) Nd.j)) (fun _ => rfl))
  (ai (sIf (SBw.toB (gG (aJ O.t (ab Nm.n (by kernel_rfl) Nd.n) (bV O.t (aN O Nm.d (n := N.d) (by rfl) (aH (by kernel_rfl) (by kernel_rfl)) Nd.d) (aC (by kernel_rfl)) (fun _ _ => rfl)) (by with_unfolding_all rfl)) (gG (aJ O.t (ab Nm.n (by kernel_rfl) Nd.n) (bV O.t (aN O Nm.d (n := N.d) (by rfl) (aH (by kernel_rfl) (by kernel_rfl)) Nd.d) (aC (by kernel_rfl)) (fun _ _ => rfl)) (by with_unfolding_all rfl)) nI))) (ai (aS (dy (fun _ => rfl) (.cons (ab Nm.n (by kernel_rfl) Nd.n) (.cons (dS Nm.k (ab Nm.j (by kernel_rfl) Nd.j)) (.cons (sBC kn (.inl ⟨_, rfl⟩) (O.bu _ N.H Nm.H (by decide)) rfl (by decide) (aH (by kernel_rfl) (by kernel_rfl)) Nd.H (fun _ => rfl) (.cons (dS Nm.b (ab Nm.j (by kernel_rfl) Nd.j)) .nil) (fun _ => rfl)) (.cons (d3 ((S.ulaw_flag O).up (by decide)) (O.de _ N.aU Nm.aU (by rfl)) (O.dk N.aU (by rfl)) (aH (by kernel_rfl) (by kernel_rfl)) Nd.aU (fun _ => rfl) (.cons (dS Nm.K (ab Nm.j (by kernel_rfl) Nd.j)) .nil) (fun _ => rfl)) (.cons (sBC pF (.inl ⟨_, rfl⟩) (O.bu _ N.bf Nm.bf (by decide)) rfl (by decide) (aH (by kernel_rfl) (by kernel_rfl)) Nd.bf (fun _ => rfl) (.cons (dS Nm.b (ab Nm.j (by kernel_rfl) Nd.j)) (.cons (qH (O.bu _ N.aL Nm.aL (by decide)) rfl (by decide) (aH (by kernel_rfl) (by kernel_rfl)) Nd.aL) .nil)) (fun _ => rfl)) .nil)))))))
  az) az)
  (ai (sIf (aJ O.t (ab Nm.n (by kernel_rfl) Nd.n) (bV O.t (aN O Nm.d (n := N.d) (by rfl) (aH (by kernel_rfl) (by kernel_rfl)) Nd.d) (aC (by kernel_rfl)) (fun _ _ => rfl)) (by with_unfolding_all rfl)) (ai (aS (dy (fun _ => rfl) (.cons (ab Nm.n (by kernel_rfl) Nd.n) (.cons (dS Nm.k (ab Nm.j (by kernel_rfl) Nd.j)) (.cons (dS Nm.aB (ab Nm.j (by kernel_rfl) Nd.j)) (.cons (dS Nm.aE (ab Nm.j (by kernel_rfl) Nd.j)) (.cons (dS Nm.av (ab Nm.j (by kernel_rfl) Nd.j)) .nil)))))))
  az) az)
  (ai (aS (dy (fun _ => rfl) (.cons (ab Nm.n (by kernel_rfl) Nd.n) (.cons (dS Nm.b (ab Nm.j (by kernel_rfl) Nd.j)) .nil))))
  az))))
theorem S.ulaw_token (O : KAll w.params K) : SF prog w K 2 815 F.ulaw_token :=
  db (d := 1) O.fulaw_token (by decide) (by decide +kernel) (fun _ _ _ _ _ _ _ vs h => by obtain ⟨v0, rfl⟩ := cB vs h; kernel_rfl)
    (fun h0 => absurd rfl h0) (fun h0 => absurd rfl h0)
    (fun _ => B.ulaw_token O) (by kernel_rfl) (by kernel_rfl) (by kernel_rfl) (by decide +kernel)
noncomputable def T.openStream : TS :=
  (ae (aR N.e (hW 73 F.initText [(aa N.an)]))
  (ae (ay (aa N.e))
  aj))
noncomputable def F.openStream : TF := cL (cM [N.a, N.an] []) T.openStream
theorem B.openStream (O : KAll w.params K) : SS prog w K 2 q (aw fd.openStream) f cd (fl q (aw fd.openStream) f cd) (aL fd.openStream) T.openStream :=
  (ai (bD Nm.e (by kernel_rfl) (pu ((S.initText O).up (by decide)) (O.cm 73 63 (by decide)) (O.ci 73 63 (by decide)) (O.cf 73 63 (by decide)) (O.ce _ N.a5 Nm.a5 (by rfl)) (O.ck 73 63 (by decide)) (aH (by kernel_rfl) (by kernel_rfl)) Nd.a5 (fun _ => rfl) (.cons (ab Nm.an (by kernel_rfl) Nd.an) .nil) (fun _ => rfl)) (fun _ => rfl))
  (ai (aS (ab Nm.e (by kernel_rfl) Nd.e))
  az))
theorem S.openStream (O : KAll w.params K) : SF prog w K 3 112 F.openStream :=
  db (d := 2) O.fopenStream (by decide) (by decide +kernel) (fun _ _ _ _ _ _ _ vs h => by obtain ⟨v0, v1, rfl⟩ := d7 vs h; kernel_rfl)
    (fun h0 => absurd rfl h0) (fun h0 => absurd rfl h0)
    (fun _ => B.openStream O) (by kernel_rfl) (by kernel_rfl) (by kernel_rfl) (by decide +kernel)
noncomputable def T.readChunk : TS :=
  (ae (aIf (aq tb .Is (aa N.w) (ad .none)) (ae (aR N.w (fQ 166 N.aR 10240 (aa N.a)))
  aj) aj)
  (ae (gu tb (aI N.aH 119 F.uposition (aa N.a) [(ak N.w (aa N.a))]) [(ew N.as (aa N.a)), (ew N.ar (aa N.a))])
  (ae (ah N.z (ad (.str [])) (aa N.a))
  (ae (ah N.w (ad (.int 0)) (aa N.a))
  (ae (ah N.r (ad (.int 0)) (aa N.a))
  (ae (aR N.b (aI N.bj 70 F.read (ak N.V (aa N.a)) [(aa N.w)]))
  (ae (aIf (bY tb (ak N.U (aa N.a))) (ae (aR N.b (cA .Add (ak N.U (aa N.a)) (aa N.b)))
  (ae (ah N.U (ad .none) (aa N.a))
  aj)) (ae (aIf (jw (bY tb (aa N.b))) (ae (ay (ad (.bool false)))
  aj) aj)
  aj))
  (ae (aIf (aq tb .Gt (aW eT [(aa N.b)]) (ad (.int 1))) (ae (aR N.ah (aW jF [(aU tb (aa N.b) (dE (ad (.int 1))))]))
  (ae (aIf (aOr (aq tb .Eq (aa N.ah) (ad (.int 13))) (aOr (cD tb .LtE .LtE (ad (.int 55296)) (aa N.ah) (ad (.int 56319))) (aB false))) (ae (ah N.U (aU tb (aa N.b) (dE (ad (.int 1)))) (aa N.a))
  (ae (aR N.b (dG (aa N.b) none (some (dE (ad (.int 1))))))
  aj)) aj)
  aj)) aj)
  (ae (aIf (bY tb (ak N.C (aa N.a))) (ae (aK (iQ N.C FTr (aa N.a) [(aa N.b)]))
  aj) aj)
  (ae (aR N.b (gH [13, 10] [10] (aa N.b)))
  (ae (aR N.b (gH [13] [10] (aa N.b)))
  (ae (ah N.z (aa N.b) (aa N.a))
  (ae (ah N.w (aW eT [(aa N.b)]) (aa N.a))
  (ae (ay (ad (.bool true)))
  aj))))))))))))))
noncomputable def F.readChunk : TF := cL (cM [N.a, N.w] [.none]) T.readChunk
theorem B.readChunk (O : KAll w.params K) : SS prog w K 2 q (aw fd.readChunk) f cd (fl q (aw fd.readChunk) f cd) (aL fd.readChunk) T.readChunk :=
  (ai (sIf (aJ O.t (ab Nm.w (by kernel_rfl) Nd.w) eV (by with_unfolding_all rfl)) (ai (bD Nm.w (by kernel_rfl) (qW O rfl Nm.aR (ab Nm.a (by kernel_rfl) Nd.a) (fun _ => rfl)) (fun _ => rfl))
  az) az)
  (ai (pI O.t (bC O.ok.toKOk Nm.aH ((S.uposition O).up (by decide)) (ab Nm.a (by kernel_rfl) Nd.a) (fun _ => rfl) (.cons (aD O.ok.toKOk Nm.w (ab Nm.a (by kernel_rfl) Nd.a) (fun _ => rfl)) .nil) (fun _ => ⟨_, rfl⟩)) (.cons (lX O.ok.toKOk Nm.as (ab Nm.a (by kernel_rfl) Nd.a)) (fun _ _ => rfl) (.cons (lX O.ok.toKOk Nm.ar (ab Nm.a (by kernel_rfl) Nd.a)) (fun _ _ => rfl) .nil)) (fun _ => rfl) (fun _ => rfl))
  (ai (au O.ok.toKOk Nm.z (aC (by kernel_rfl)) (ab Nm.a (by kernel_rfl) Nd.a) (fun _ => rfl))
  (ai (au O.ok.toKOk Nm.w bw (ab Nm.a (by kernel_rfl) Nd.a) (fun _ => rfl))
  (ai (au O.ok.toKOk Nm.r bw (ab Nm.a (by kernel_rfl) Nd.a) (fun _ => rfl))
  (ai (bD Nm.b (by kernel_rfl) (bC O.ok.toKOk Nm.bj ((S.read O).up (by decide)) (aD O.ok.toKOk Nm.V (ab Nm.a (by kernel_rfl) Nd.a) (fun _ => rfl)) (fun _ => rfl) (.cons (ab Nm.w (by kernel_rfl) Nd.w) .nil) (fun _ => ⟨_, rfl⟩)) (fun _ => rfl))
  (ai (sIf (eX (aD O.ok.toKOk Nm.U (ab Nm.a (by kernel_rfl) Nd.a) (fun _ => rfl)) (fun _ => rfl)) (ai (bD Nm.b (by kernel_rfl) (ek (aD O.ok.toKOk Nm.U (ab Nm.a (by kernel_rfl) Nd.a) (fun _ => rfl)) (ab Nm.b (by kernel_rfl) Nd.b)) (fun _ => rfl))
  (ai (au O.ok.toKOk Nm.U eV (ab Nm.a (by kernel_rfl) Nd.a) (fun _ => rfl))
  az)) (ai (sIf (qN (eX (ab Nm.b (by kernel_rfl) Nd.b) (fun _ => rfl))) (ai (aS bG)
  az) az)
  az))
  (ai (sIf (aJ O.t (sBC kn (.inl ⟨_, rfl⟩) (O.bu _ N.H Nm.H (by decide)) rfl (by decide) (aH (by kernel_rfl) (by kernel_rfl)) Nd.H (fun _ => rfl) (.cons (ab Nm.b (by kernel_rfl) Nd.b) .nil) (fun _ => rfl)) bw (by with_unfolding_all rfl)) (ai (bD Nm.ah (by kernel_rfl) (sBC pE (.inl ⟨_, rfl⟩) (O.bu _ N.af Nm.af (by decide)) rfl (by decide) (aH (by kernel_rfl) (by kernel_rfl)) Nd.af (fun _ => rfl) (.cons (bV O.t (ab Nm.b (by kernel_rfl) Nd.b) (kr bw) (fun _ _ => rfl)) .nil) (fun _ => rfl)) (fun _ => rfl))
  (ai (sIf (SBw.toB (gG (aJ O.t (ab Nm.ah (by kernel_rfl) Nd.ah) bw (by with_unfolding_all rfl)) (gG (jv O.t bw (ab Nm.ah (by kernel_rfl) Nd.ah) bw (by with_unfolding_all rfl)) nI))) (ai (au O.ok.toKOk Nm.U (bV O.t (ab Nm.b (by kernel_rfl) Nd.b) (kr bw) (fun _ _ => rfl)) (ab Nm.a (by kernel_rfl) Nd.a) (fun _ => rfl))
  (ai (bD Nm.b (by kernel_rfl) (iT (ab Nm.b (by kernel_rfl) Nd.b) ik (d5 (kr bw))) (fun _ => rfl))
  az)) az)
  az)) az)
  (ai (sIf (eX (aD O.ok.toKOk Nm.C (ab Nm.a (by kernel_rfl) Nd.a) (fun _ => rfl)) (fun _ => rfl)) (ai (bj (qL O.ok.toKOk Nm.C (sK O _ (by decide)) (ab Nm.a (by kernel_rfl) Nd.a) (fun _ => rfl) (.cons (ab Nm.b (by kernel_rfl) Nd.b) .nil) (fun _ => ⟨_, rfl⟩)) (fun _ => rfl))
  az) az)
  (ai (bD Nm.b (by kernel_rfl) (pG rfl PySem.F.slot_str_replace PySem.F.type_str_replace (by kernel_rfl) (by kernel_rfl) (ab Nm.b (by kernel_rfl) Nd.b) (fun _ => rfl) (fun _ => ⟨_, rfl⟩)) (fun _ => rfl))
  (ai (bD Nm.b (by kernel_rfl) (pG rfl PySem.F.slot_str_replace PySem.F.type_str_replace (by kernel_rfl) (by kernel_rfl) (ab Nm.b (by kernel_rfl) Nd.b) (fun _ => rfl) (fun _ => ⟨_, rfl⟩)) (fun _ => rfl))
  (ai (au O.ok.toKOk Nm.z (ab Nm.b (by kernel_rfl) Nd.b) (ab Nm.a (by kernel_rfl) Nd.a) (fun _ => rfl))
  (ai (au O.ok.toKOk Nm.w (sBC kn (.inl ⟨_, rfl⟩) (O.bu _ N.H Nm.H (by decide)) rfl (by decide) (aH (by kernel_rfl) (by kernel_rfl)) Nd.H (fun _ => rfl) (.cons (ab Nm.b (by kernel_rfl) Nd.b) .nil) (fun _ => rfl)) (ab Nm.a (by kernel_rfl) Nd.a) (fun _ => rfl))
  (ai (aS bG)
  az))))))))))))))
theorem S.readChunk (O : KAll w.params K) : SF prog w K 3 141 F.readChunk :=
  db (d := 2) O.freadChunk (by decide) (by decide +kernel) (fun h0 => absurd h0 (by simp))
    (fun _ ws _ _ _ _ _ _ _ vs h h3 => by obtain ⟨w0, rfl⟩ := cB ws h; obtain ⟨v0, v1, rfl⟩ := d7 vs h3; exact ⟨_, rfl, rfl⟩) (fun _ ws _ _ _ _ _ _ _ vs h h3 => by obtain ⟨w0, rfl⟩ := cB ws h; obtain ⟨v0, rfl⟩ := cB vs (by simpa using h3); exact ⟨_, rfl, rfl⟩)
    (fun _ => B.readChunk O) (by kernel_rfl) (by kernel_rfl) (by kernel_rfl) (by decide +kernel)
noncomputable def T.ulaw_queue : TS :=
  (ae (ay (dK tb (ak N.g (aa N.c)) N.j (fun C j => (aB true)) (fun C j => (aW F.ulaw_token [(cN C j N.j)]))))
  aj)
noncomputable def F.ulaw_queue : TF := cL (cM [N.c] []) T.ulaw_queue
theorem B.ulaw_queue (O : KAll w.params K) : SS prog w K 2 q (aw fd.ulaw_queue) f cd (fl q (aw fd.ulaw_queue) f cd) (aL fd.ulaw_queue) T.ulaw_queue :=
  (ai (aS (lZ O.t Nm.j (by decide +kernel) (by decide +kernel) (by kernel_rfl) (by decide +kernel) (by kernel_rfl) (aD O.ok.toKOk Nm.g (ab Nm.c (by kernel_rfl) Nd.c) (fun _ => rfl)) (fun C j => gQ) (fun C j => (d3 ((S.ulaw_token O).up (by decide)) (O.de _ N.M Nm.M (by rfl)) (O.dk N.M (by rfl)) (jb (by kernel_rfl) (by kernel_rfl)) Nd.M (fun _ => rfl) (.cons (f6 Nm.j (by kernel_rfl) (by kernel_rfl) Nd.j) .nil) (fun _ => rfl))) (fun _ _ => rfl)))
  az)
theorem S.ulaw_queue (O : KAll w.params K) : SF prog w K 3 820 F.ulaw_queue :=
  db (d := 2) O.fulaw_queue (by decide) (by decide +kernel) (fun _ _ _ _ _ _ _ vs h => by obtain ⟨v0, rfl⟩ := cB vs h; kernel_rfl)
    (fun h0 => absurd rfl h0) (fun h0 => absurd rfl h0)
    (fun _ => B.ulaw_queue O) (by kernel_rfl) (by kernel_rfl) (by kernel_rfl) (by decide +kernel)
noncomputable def T.initHTMLUnicodeInputStream : TS :=
  (ae (ah N.C (bg N.bc (aa N.a)) (aa N.a))
  (ae (ah N.P (cx [(ad (.int 0))]) (aa N.a))
  (ae (ah N.V (aI N.bh 112 F.openStream (aa N.a) [(aa N.an)]) (aa N.a))
  (ae (aK (aI N.bk 105 F.reset (aa N.a) []))
  aj))))
noncomputable def F.initHTMLUnicodeInputStream : TF := cL (cM [N.a, N.an] []) T.initHTMLUnicodeInputStream
theorem B.initHTMLUnicodeInputStream (O : KAll w.params K) : SS prog w K 3 q (aw fd.initHTMLUnicodeInputStream) f cd (fl q (aw fd.initHTMLUnicodeInputStream) f cd) (aL fd.initHTMLUnicodeInputStream) T.initHTMLUnicodeInputStream :=
  (ai (au O.ok.toKOk Nm.C (bE O.ok Nm.bc (ab Nm.a (by kernel_rfl) Nd.a) (fun _ => rfl)) (ab Nm.a (by kernel_rfl) Nd.a) (fun _ => rfl))
  (ai (au O.ok.toKOk Nm.P (fE (fun _ => rfl) (.cons bw .nil)) (ab Nm.a (by kernel_rfl) Nd.a) (fun _ => rfl))
  (ai (au O.ok.toKOk Nm.V (bC O.ok.toKOk Nm.bh ((S.openStream O).up (by decide)) (ab Nm.a (by kernel_rfl) Nd.a) (fun _ => rfl) (.cons (ab Nm.an (by kernel_rfl) Nd.an) .nil) (fun _ => ⟨_, rfl⟩)) (ab Nm.a (by kernel_rfl) Nd.a) (fun _ => rfl))
  (ai (bj (bC O.ok.toKOk Nm.bk ((S.reset O).up (by decide)) (ab Nm.a (by kernel_rfl) Nd.a) (fun _ => rfl) .nil (fun _ => ⟨_, rfl⟩)) (fun _ => rfl))
  az))))
theorem S.initHTMLUnicodeInputStream (O : KAll w.params K) : SF prog w K 4 98 F.initHTMLUnicodeInputStream :=
  db (d := 3) O.finitHTMLUnicodeInputStream (by decide) (by decide +kernel) (fun _ _ _ _ _ _ _ vs h => by obtain ⟨v0, v1, rfl⟩ := d7 vs h; kernel_rfl)
    (fun h0 => absurd rfl h0) (fun h0 => absurd rfl h0)
    (fun _ => B.initHTMLUnicodeInputStream O) (by kernel_rfl) (by kernel_rfl) (by kernel_rfl) (by decide +kernel)
noncomputable def T.char : TS :=
  (ae (aIf (aq tb .GtE (ak N.r (aa N.a)) (ak N.w (aa N.a))) (ae (aIf (jw (bY tb (aI N.aD 141 F.readChunk (aa N.a) []))) (ae (ay (ad (.none)))
  aj) aj)
  aj) aj)
  (ae (aR N.r (ak N.r (aa N.a)))
  (ae (aR N.u (aU tb (ak N.z (aa N.a)) (aa N.r)))
  (ae (ah N.r (cA .Add (aa N.r) (ad (.int 1))) (aa N.a))
  (ae (ay (aa N.u))
  aj)))))
noncomputable def F.char : TF := cL (cM [N.a] []) T.char
theorem B.char (O : KAll w.params K) : SS prog w K 3 q (aw fd.char) f cd (fl q (aw fd.char) f cd) (aL fd.char) T.char :=
  (ai (sIf (aJ O.t (aD O.ok.toKOk Nm.r (ab Nm.a (by kernel_rfl) Nd.a) (fun _ => rfl)) (aD O.ok.toKOk Nm.w (ab Nm.a (by kernel_rfl) Nd.a) (fun _ => rfl)) (by with_unfolding_all rfl)) (ai (sIf (qN (eX (bC O.ok.toKOk Nm.aD ((S.readChunk O).up (by decide)) (ab Nm.a (by kernel_rfl) Nd.a) (fun _ => rfl) .nil (fun _ => ⟨_, rfl⟩)) (fun _ => rfl))) (ai (aS (aN O Nm.L (n := N.L) (by rfl) (aH (by kernel_rfl) (by kernel_rfl)) Nd.L))
  az) az)
  az) az)
  (ai (bD Nm.r (by kernel_rfl) (aD O.ok.toKOk Nm.r (ab Nm.a (by kernel_rfl) Nd.a) (fun _ => rfl)) (fun _ => rfl))
  (ai (bD Nm.u (by kernel_rfl) (bV O.t (aD O.ok.toKOk Nm.z (ab Nm.a (by kernel_rfl) Nd.a) (fun _ => rfl)) (ab Nm.r (by kernel_rfl) Nd.r) (fun _ _ => rfl)) (fun _ => rfl))
  (ai (au O.ok.toKOk Nm.r (ek (ab Nm.r (by kernel_rfl) Nd.r) bw) (ab Nm.a (by kernel_rfl) Nd.a) (fun _ => rfl))
  (ai (aS (ab Nm.u (by kernel_rfl) Nd.u))
  az)))))
theorem S.char (O : KAll w.params K) : SF prog w K 4 133 F.char :=
  db (d := 3) O.fchar (by decide) (by decide +kernel) (fun _ _ _ _ _ _ _ vs h => by obtain ⟨v0, rfl⟩ := cB vs h; kernel_rfl)
    (fun h0 => absurd rfl h0) (fun h0 => absurd rfl h0)
    (fun _ => B.char O) (by kernel_rfl) (by kernel_rfl) (by kernel_rfl) (by decide +kernel)
noncomputable def T.charsUntil : TS :=
  (ae (aR N.J (cx []))
  (ae (dU (bY tb (ad (.bool true))) (ae (aR N.f (ak N.r (aa N.a)))
  (ae (dU (du (aq tb .NotEq (aa N.f) (ak N.w (aa N.a))) (du (aq tb .Eq (dR tb .In (aU tb (ak N.z (aa N.a)) (aa N.f)) (aa N.ag)) (aa N.ai)) (aB true))) (ae (c8 N.f .Add (ad (.int 1)))
  aj))
  (ae (aIf (aq tb .Eq (aa N.f) (ak N.r (aa N.a))) (ae (aIf (aq tb .NotEq (ak N.r (aa N.a)) (ak N.w (aa N.a))) (ae (hJ .brk)
  aj) aj)
  aj) (ae (aIf (aq tb .NotEq (aa N.f) (ak N.w (aa N.a))) (ae (aK (aBM 2 bP (aa N.J) [(dG (ak N.z (aa N.a)) (some (ak N.r (aa N.a))) (some (aa N.f)))]))
  (ae (ah N.r (aa N.f) (aa N.a))
  (ae (hJ .brk)
  aj))) aj)
  aj))
  (ae (aK (aBM 2 bP (aa N.J) [(dG (ak N.z (aa N.a)) (some (ak N.r (aa N.a))) none)]))
  (ae (aIf (jw (bY tb (aI N.aD 141 F.readChunk (aa N.a) []))) (ae (hJ .brk)
  aj) aj)
  aj))))))
  (ae (aR N.au (aBM 1 d6 (ad (.str [])) [(aa N.J)]))
  (ae (ay (aa N.au))
  aj))))
noncomputable def F.charsUntil : TF := cL (cM [N.a, N.ag, N.ai] [.bool false]) T.charsUntil
theorem B.charsUntil (O : KAll w.params K) : SS prog w K 3 q (aw fd.charsUntil) f cd (fl q (aw fd.charsUntil) f cd) (aL fd.charsUntil) T.charsUntil :=
  (ai (bD Nm.J (by kernel_rfl) (fE (fun _ => rfl) .nil) (fun _ => rfl))
  (ai (jJ (eX bG (fun _ => rfl)) (ai (bD Nm.f (by kernel_rfl) (aD O.ok.toKOk Nm.r (ab Nm.a (by kernel_rfl) Nd.a) (fun _ => rfl)) (fun _ => rfl))
  (ai (jJ (SBw.toB (fT (aJ O.t (ab Nm.f (by kernel_rfl) Nd.f) (aD O.ok.toKOk Nm.w (ab Nm.a (by kernel_rfl) Nd.a) (fun _ => rfl)) (by with_unfolding_all rfl)) (fT (aJ O.t (ll O.t (bV O.t (aD O.ok.toKOk Nm.z (ab Nm.a (by kernel_rfl) Nd.a) (fun _ => rfl)) (ab Nm.f (by kernel_rfl) Nd.f) (fun _ _ => rfl)) (ab Nm.ag (by kernel_rfl) Nd.ag) (by with_unfolding_all rfl)) (ab Nm.ai (by kernel_rfl) Nd.ai) (by with_unfolding_all rfl)) lQ))) (ai (fU Nm.f (by kernel_rfl) bw)
  az))
  (ai (sIf (aJ O.t (ab Nm.f (by kernel_rfl) Nd.f) (aD O.ok.toKOk Nm.r (ab Nm.a (by kernel_rfl) Nd.a) (fun _ => rfl)) (by with_unfolding_all rfl)) (ai (sIf (aJ O.t (aD O.ok.toKOk Nm.r (ab Nm.a (by kernel_rfl) Nd.a) (fun _ => rfl)) (aD O.ok.toKOk Nm.w (ab Nm.a (by kernel_rfl) Nd.a) (fun _ => rfl)) (by with_unfolding_all rfl)) (ai jq
  az) az)
  az) (ai (sIf (aJ O.t (ab Nm.f (by kernel_rfl) Nd.f) (aD O.ok.toKOk Nm.w (ab Nm.a (by kernel_rfl) Nd.a) (fun _ => rfl)) (by with_unfolding_all rfl)) (ai (bj (sBM (by decide) PySem.F.slot_list_append PySem.F.type_list_append cG (ab Nm.J (by kernel_rfl) Nd.J) (fun _ => rfl) (.cons (iT (aD O.ok.toKOk Nm.z (ab Nm.a (by kernel_rfl) Nd.a) (fun _ => rfl)) (d5 (aD O.ok.toKOk Nm.r (ab Nm.a (by kernel_rfl) Nd.a) (fun _ => rfl))) (d5 (ab Nm.f (by kernel_rfl) Nd.f))) .nil) (fun _ => ⟨_, rfl⟩)) (fun _ => rfl))
  (ai (au O.ok.toKOk Nm.r (ab Nm.f (by kernel_rfl) Nd.f) (ab Nm.a (by kernel_rfl) Nd.a) (fun _ => rfl))
  (ai jq
  az))) az)
  az))
  (ai (bj (sBM (by decide) PySem.F.slot_list_append PySem.F.type_list_append cG (ab Nm.J (by kernel_rfl) Nd.J) (fun _ => rfl) (.cons (iT (aD O.ok.toKOk Nm.z (ab Nm.a (by kernel_rfl) Nd.a) (fun _ => rfl)) (d5 (aD O.ok.toKOk Nm.r (ab Nm.a (by kernel_rfl) Nd.a) (fun _ => rfl))) ik) .nil) (fun _ => ⟨_, rfl⟩)) (fun _ => rfl))
  (ai (sIf (qN (eX (bC O.ok.toKOk Nm.aD ((S.readChunk O).up (by decide)) (ab Nm.a (by kernel_rfl) Nd.a) (fun _ => rfl) .nil (fun _ => ⟨_, rfl⟩)) (fun _ => rfl))) (ai jq
  az) az)
  az))))))
  (ai (bD Nm.au (by kernel_rfl) (sBM (by decide) PySem.F.slot_str_join PySem.F.type_str_join mM (aC (by kernel_rfl)) (fun _ => rfl) (.cons (ab Nm.J (by kernel_rfl) Nd.J) .nil) (fun _ => ⟨_, rfl⟩)) (fun _ => rfl))
  (ai (aS (ab Nm.au (by kernel_rfl) Nd.au))
  az))))
theorem S.charsUntil (O : KAll w.params K) : SF prog w K 4 156 F.charsUntil :=
  db (d := 3) O.fcharsUntil (by decide) (by decide +kernel) (fun h0 => absurd h0 (by simp))
    (fun _ ws _ _ _ _ _ _ _ vs h h3 => by obtain ⟨w0, rfl⟩ := cB ws h; obtain ⟨v0, v1, v2, rfl⟩ := qm vs h3; exact ⟨_, rfl, rfl⟩) (fun _ ws _ _ _ _ _ _ _ vs h h3 => by obtain ⟨w0, rfl⟩ := cB ws h; obtain ⟨v0, v1, rfl⟩ := d7 vs (by simpa using h3); exact ⟨_, rfl, rfl⟩)
    (fun _ => B.charsUntil O) (by kernel_rfl) (by kernel_rfl) (by kernel_rfl) (by decide +kernel)
noncomputable def T.dataState : TS :=
  (ae (aR N.b (aI N.u 133 F.char (ak N.e (aa N.a)) []))
  (ae (aIf (aq tb .Eq (aa N.b) (ad (.str [38]))) (ae (ah N.i (bg N.bm (aa N.a)) (aa N.a))
  aj) (ae (aIf (aq tb .Eq (aa N.b) (ad (.str [60]))) (ae (ah N.i (bg N.aO (aa N.a)) (aa N.a))
  aj) (ae (aIf (aq tb .Eq (aa N.b) (ad (.str [0]))) (ae (aK (aBM 2 bP (ak N.g (aa N.a)) [(bh [N.h, N.b] [(aU tb (ad (.glob (.ref 48))) (ad (.str [80, 97, 114, 115, 101, 69, 114, 114, 111, 114]))), (ad (.str [105, 110, 118, 97, 108, 105, 100, 45, 99, 111, 100, 101, 112, 111, 105, 110, 116]))])]))
  (ae (aK (aBM 2 bP (ak N.g (aa N.a)) [(bh [N.h, N.b] [(aU tb (ad (.glob (.ref 48))) (ad (.str [67, 104, 97, 114, 97, 99, 116, 101, 114, 115]))), (ad (.str [0]))])]))
  aj)) (ae (aIf (aq tb .Is (aa N.b) (ad (.none))) (ae (ay (ad (.bool false)))
  aj) (ae (aIf (aq tb .In (aa N.b) (ad (.glob (.ref 22)))) (ae (aK (aBM 2 bP (ak N.g (aa N.a)) [(bh [N.h, N.b] [(aU tb (ad (.glob (.ref 48))) (ad (.str [83, 112, 97, 99, 101, 67, 104, 97, 114, 97, 99, 116, 101, 114, 115]))), (cA .Add (aa N.b) (aI N.N 156 F.charsUntil (ak N.e (aa N.a)) [(ad (.glob (.ref 22))), (ad (.bool true))]))])]))
  aj) (ae (aR N.aJ (aI N.N 156 F.charsUntil (ak N.e (aa N.a)) [(bq [(ad (.str [38])), (ad (.str [60])), (ad (.str [0]))])]))
  (ae (aK (aBM 2 bP (ak N.g (aa N.a)) [(bh [N.h, N.b] [(aU tb (ad (.glob (.ref 48))) (ad (.str [67, 104, 97, 114, 97, 99, 116, 101, 114, 115]))), (cA .Add (aa N.b) (aa N.aJ))])]))
  aj)))
  aj))
  aj))
  aj))
  aj))
  (ae (ay (ad (.bool true)))
  aj)))
noncomputable def F.dataState : TF := cL (cM [N.a] []) T.dataState
theorem B.dataState (O : KAll w.params K) : SS prog w K 4 q (aw fd.dataState) f cd (fl q (aw fd.dataState) f cd) (aL fd.dataState) T.dataState :=
  (ai (bD Nm.b (by kernel_rfl) (bC O.ok.toKOk Nm.u ((S.char O).up (by decide)) (aD O.ok.toKOk Nm.e (ab Nm.a (by kernel_rfl) Nd.a) (fun _ => rfl)) (fun _ => rfl) .nil (fun _ => ⟨_, rfl⟩)) (fun _ => rfl))
  (ai (sIf (aJ O.t (ab Nm.b (by kernel_rfl) Nd.b) (aC (by kernel_rfl)) (by with_unfolding_all rfl)) (ai (au O.ok.toKOk Nm.i (bE O.ok Nm.bm (ab Nm.a (by kernel_rfl) Nd.a) (fun _ => rfl)) (ab Nm.a (by kernel_rfl) Nd.a) (fun _ => rfl))
  az) (ai (sIf (aJ O.t (ab Nm.b (by kernel_rfl) Nd.b) (aC (by kernel_rfl)) (by with_unfolding_all rfl)) (ai (au O.ok.toKOk Nm.i (bE O.ok Nm.aO (ab Nm.a (by kernel_rfl) Nd.a) (fun _ => rfl)) (ab Nm.a (by kernel_rfl) Nd.a) (fun _ => rfl))
  az) (ai (sIf (aJ O.t (ab Nm.b (by kernel_rfl) Nd.b) (aC (by kernel_rfl)) (by with_unfolding_all rfl)) (ai (bj (sBM (by decide) PySem.F.slot_list_append PySem.F.type_list_append cG (aD O.ok.toKOk Nm.g (ab Nm.a (by kernel_rfl) Nd.a) (fun _ => rfl)) (fun _ => rfl) (.cons (bZ (by kernel_rfl) rfl (List.cons_ne_nil _ _) (Nat.le_of_ble_eq_true rfl) (.cons (bV O.t (aN O Nm.d (n := N.d) (by rfl) (aH (by kernel_rfl) (by kernel_rfl)) Nd.d) (aC (by kernel_rfl)) (fun _ _ => rfl)) (.cons (aC (by kernel_rfl)) .nil))) .nil) (fun _ => ⟨_, rfl⟩)) (fun _ => rfl))
  (ai (bj (sBM (by decide) PySem.F.slot_list_append PySem.F.type_list_append cG (aD O.ok.toKOk Nm.g (ab Nm.a (by kernel_rfl) Nd.a) (fun _ => rfl)) (fun _ => rfl) (.cons (bZ (by kernel_rfl) rfl (List.cons_ne_nil _ _) (Nat.le_of_ble_eq_true rfl) (.cons (bV O.t (aN O Nm.d (n := N.d) (by rfl) (aH (by kernel_rfl) (by kernel_rfl)) Nd.d) (aC (by kernel_rfl)) (fun _ _ => rfl)) (.cons (aC (by kernel_rfl)) .nil))) .nil) (fun _ => ⟨_, rfl⟩)) (fun _ => rfl))
  az)) (ai (sIf (aJ O.t (ab Nm.b (by kernel_rfl) Nd.b) (aN O Nm.L (n := N.L) (by rfl) (aH (by kernel_rfl) (by kernel_rfl)) Nd.L) (by with_unfolding_all rfl)) (ai (aS bG)
  az) (ai (sIf (aJ O.t (ab Nm.b (by kernel_rfl) Nd.b) (aN O Nm.W (n := N.W) (by rfl) (aH (by kernel_rfl) (by kernel_rfl)) Nd.W) (by with_unfolding_all rfl)) (ai (bj (sBM (by decide) PySem.F.slot_list_append PySem.F.type_list_append cG (aD O.ok.toKOk Nm.g (ab Nm.a (by kernel_rfl) Nd.a) (fun _ => rfl)) (fun _ => rfl) (.cons (bZ (by kernel_rfl) rfl (List.cons_ne_nil _ _) (Nat.le_of_ble_eq_true rfl) (.cons (bV O.t (aN O Nm.d (n := N.d) (by rfl) (aH (by kernel_rfl) (by kernel_rfl)) Nd.d) (aC (by kernel_rfl)) (fun _ _ => rfl)) (.cons (ek (ab Nm.b (by kernel_rfl) Nd.b) (bC O.ok.toKOk Nm.N ((S.charsUntil O).up (by decide)) (aD O.ok.toKOk Nm.e (ab Nm.a (by kernel_rfl) Nd.a) (fun _ => rfl)) (fun _ => rfl) (.cons (aN O Nm.W (n := N.W) (by rfl) (aH (by kernel_rfl) (by kernel_rfl)) Nd.W) (.cons bG .nil)) (fun _ => ⟨_, rfl⟩))) .nil))) .nil) (fun _ => ⟨_, rfl⟩)) (fun _ => rfl))
  az) (ai (bD Nm.aJ (by kernel_rfl) (bC O.ok.toKOk Nm.N ((S.charsUntil O).up (by decide)) (aD O.ok.toKOk Nm.e (ab Nm.a (by kernel_rfl) Nd.a) (fun _ => rfl)) (fun _ => rfl) (.cons (dy (fun _ => rfl) (.cons (aC (by kernel_rfl)) (.cons (aC (by kernel_rfl)) (.cons (aC (by kernel_rfl)) .nil)))) .nil) (fun _ => ⟨_, rfl⟩)) (fun _ => rfl))
  (ai (bj (sBM (by decide) PySem.F.slot_list_append PySem.F.type_list_append cG (aD O.ok.toKOk Nm.g (ab Nm.a (by kernel_rfl) Nd.a) (fun _ => rfl)) (fun _ => rfl) (.cons (bZ (by kernel_rfl) rfl (List.cons_ne_nil _ _) (Nat.le_of_ble_eq_true rfl) (.cons (bV O.t (aN O Nm.d (n := N.d) (by rfl) (aH (by kernel_rfl) (by kernel_rfl)) Nd.d) (aC (by kernel_rfl)) (fun _ _ => rfl)) (.cons (ek (ab Nm.b (by kernel_rfl) Nd.b) (ab Nm.aJ (by kernel_rfl) Nd.aJ)) .nil))) .nil) (fun _ => ⟨_, rfl⟩)) (fun _ => rfl))
  az)))
  az))
  az))
  az))
  az))
  (ai (aS bG)
  az)))
theorem S.dataState (O : KAll w.params K) : SF prog w K 5 304 F.dataState :=
  db (d := 4) O.fdataState (by decide) (by decide +kernel) (fun _ _ _ _ _ _ _ vs h => by obtain ⟨v0, rfl⟩ := cB vs h; kernel_rfl)
    (fun h0 => absurd rfl h0) (fun h0 => absurd rfl h0)
    (fun _ => B.dataState O) (by kernel_rfl) (by kernel_rfl) (by kernel_rfl) (by decide +kernel)
noncomputable def T.tagOpenState : TS :=
  (ae (aR N.b (aI N.u 133 F.char (ak N.e (aa N.a)) []))
  (ae (aIf (aq tb .Eq (aa N.b) (ad (.str [33]))) (ae (ah N.i (bg N.aY (aa N.a)) (aa N.a))
  aj) (ae (aIf (aq tb .Eq (aa N.b) (ad (.str [47]))) (ae (ah N.i (bg N.ap (aa N.a)) (aa N.a))
  aj) (ae (aIf (aq tb .In (aa N.b) (ad (.glob (.ref 27)))) (ae (ah N.m (bh [N.h, N.k, N.b, N.K, N.a2] [(aU tb (ad (.glob (.ref 48))) (ad (.str [83, 116, 97, 114, 116, 84, 97, 103]))), (aa N.b), (cx []), (ad (.bool false)), (ad (.bool false))]) (aa N.a))
  (ae (ah N.i (bg N.aF (aa N.a)) (aa N.a))
  aj)) (ae (aIf (aq tb .Eq (aa N.b) (ad (.str [62]))) (ae (aK (aBM 2 bP (ak N.g (aa N.a)) [(bh [N.h, N.b] [(aU tb (ad (.glob (.ref 48))) (ad (.str [80, 97, 114, 115, 101, 69, 114, 114, 111, 114]))), (ad (.str [101, 120, 112, 101, 99, 116, 101, 100, 45, 116, 97, 103, 45, 110, 97, 109, 101, 45, 98, 117, 116, 45, 103, 111, 116, 45, 114, 105, 103, 104, 116, 45, 98, 114, 97, 99, 107, 101, 116]))])]))
  (ae (aK (aBM 2 bP (ak N.g (aa N.a)) [(bh [N.h, N.b] [(aU tb (ad (.glob (.ref 48))) (ad (.str [67, 104, 97, 114, 97, 99, 116, 101, 114, 115]))), (ad (.str [60, 62]))])]))
  (ae (ah N.i (bg N.F (aa N.a)) (aa N.a))
  aj))) (ae (aIf (aq tb .Eq (aa N.b) (ad (.str [63]))) (ae (aK (aBM 2 bP (ak N.g (aa N.a)) [(bh [N.h, N.b] [(aU tb (ad (.glob (.ref 48))) (ad (.str [80, 97, 114, 115, 101, 69, 114, 114, 111, 114]))), (ad (.str [101, 120, 112, 101, 99, 116, 101, 100, 45, 116, 97, 103, 45, 110, 97, 109, 101, 45, 98, 117, 116, 45, 103, 111, 116, 45, 113, 117, 101, 115, 116, 105, 111, 110, 45, 109, 97, 114, 107]))])]))
  (ae (aK (aI N.T 163 F.unget (ak N.e (aa N.a)) [(aa N.b)]))
  (ae (ah N.i (bg N.ak (aa N.a)) (aa N.a))
  aj))) (ae (aK (aBM 2 bP (ak N.g (aa N.a)) [(bh [N.h, N.b] [(aU tb (ad (.glob (.ref 48))) (ad (.str [80, 97, 114, 115, 101, 69, 114, 114, 111, 114]))), (ad (.str [101, 120, 112, 101, 99, 116, 101, 100, 45, 116, 97, 103, 45, 110, 97, 109, 101]))])]))
  (ae (aK (aBM 2 bP (ak N.g (aa N.a)) [(bh [N.h, N.b] [(aU tb (ad (.glob (.ref 48))) (ad (.str [67, 104, 97, 114, 97, 99, 116, 101, 114, 115]))), (ad (.str [60]))])]))
  (ae (aK (aI N.T 163 F.unget (ak N.e (aa N.a)) [(aa N.b)]))
  (ae (ah N.i (bg N.F (aa N.a)) (aa N.a))
  aj)))))
  aj))
  aj))
  aj))
  aj))
  (ae (ay (ad (.bool true)))
  aj)))
noncomputable def F.tagOpenState : TF := cL (cM [N.a] []) T.tagOpenState
theorem B.tagOpenState (O : KAll w.params K) : SS prog w K 4 q (aw fd.tagOpenState) f cd (fl q (aw fd.tagOpenState) f cd) (aL fd.tagOpenState) T.tagOpenState :=
  (ai (bD Nm.b (by kernel_rfl) (bC O.ok.toKOk Nm.u ((S.char O).up (by decide)) (aD O.ok.toKOk Nm.e (ab Nm.a (by kernel_rfl) Nd.a) (fun _ => rfl)) (fun _ => rfl) .nil (fun _ => ⟨_, rfl⟩)) (fun _ => rfl))
  (ai (sIf (aJ O.t (ab Nm.b (by kernel_rfl) Nd.b) (aC (by kernel_rfl)) (by with_unfolding_all rfl)) (ai (au O.ok.toKOk Nm.i (bE O.ok Nm.aY (ab Nm.a (by kernel_rfl) Nd.a) (fun _ => rfl)) (ab Nm.a (by kernel_rfl) Nd.a) (fun _ => rfl))
  az) (ai (sIf (aJ O.t (ab Nm.b (by kernel_rfl) Nd.b) (aC (by kernel_rfl)) (by with_unfolding_all rfl)) (ai (au O.ok.toKOk Nm.i (bE O.ok Nm.ap (ab Nm.a (by kernel_rfl) Nd.a) (fun _ => rfl)) (ab Nm.a (by kernel_rfl) Nd.a) (fun _ => rfl))
  az) (ai (sIf (aJ O.t (ab Nm.b (by kernel_rfl) Nd.b) (aN O Nm.aj (n := N.aj) (by rfl) (aH (by kernel_rfl) (by kernel_rfl)) Nd.aj) (by with_unfolding_all rfl)) (ai (au O.ok.toKOk Nm.m (bZ (by kernel_rfl) rfl (List.cons_ne_nil _ _) (Nat.le_of_ble_eq_true rfl) (.cons (bV O.t (aN O Nm.d (n := N.d) (by rfl) (aH (by kernel_rfl) (by kernel_rfl)) Nd.d) (aC (by kernel_rfl)) (fun _ _ => rfl)) (.cons (ab Nm.b (by kernel_rfl) Nd.b) (.cons (fE (fun _ => rfl) .nil) (.cons bG (.cons bG .nil)))))) (ab Nm.a (by kernel_rfl) Nd.a) (fun _ => rfl))
  (ai (au O.ok.toKOk Nm.i (bE O.ok Nm.aF (ab Nm.a (by kernel_rfl) Nd.a) (fun _ => rfl)) (ab Nm.a (by kernel_rfl) Nd.a) (fun _ => rfl))
  az)) (ai (sIf (aJ O.t (ab Nm.b (by kernel_rfl) Nd.b) (aC (by kernel_rfl)) (by with_unfolding_all rfl)) (ai (bj (sBM (by decide) PySem.F.slot_list_append PySem.F.type_list_append cG (aD O.ok.toKOk Nm.g (ab Nm.a (by kernel_rfl) Nd.a) (fun _ => rfl)) (fun _ => rfl) (.cons (bZ (by kernel_rfl) rfl (List.cons_ne_nil _ _) (Nat.le_of_ble_eq_true rfl) (.cons (bV O.t (aN O Nm.d (n := N.d) (by rfl) (aH (by kernel_rfl) (by kernel_rfl)) Nd.d) (aC (by kernel_rfl)) (fun _ _ => rfl)) (.cons (aC (by kernel_rfl)) .nil))) .nil) (fun _ => ⟨_, rfl⟩)) (fun _ => rfl))
  (ai (bj (sBM (by decide) PySem.F.slot_list_append PySem.F.type_list_append cG (aD O.ok.toKOk Nm.g (ab Nm.a (by kernel_rfl) Nd.a) (fun _ => rfl)) (fun _ => rfl) (.cons (bZ (by kernel_rfl) rfl (List.cons_ne_nil _ _) (Nat.le_of_ble_eq_true rfl) (.cons (bV O.t (aN O Nm.d (n := N.d) (by rfl) (aH (by kernel_rfl) (by kernel_rfl)) Nd.d) (aC (by kernel_rfl)) (fun _ _ => rfl)) (.cons (aC (by kernel_rfl)) .nil))) .nil) (fun _ => ⟨_, rfl⟩)) (fun _ => rfl))
  (ai (au O.ok.toKOk Nm.i (bE O.ok Nm.F (ab Nm.a (by kernel_rfl) Nd.a) (fun _ => rfl)) (ab Nm.a (by kernel_rfl) Nd.a) (fun _ => rfl))
  az))) (ai (sIf (aJ O.t (ab Nm.b (by kernel_rfl) Nd.b) (aC (by kernel_rfl)) (by with_unfolding_all rfl)) (ai (bj (sBM (by decide) PySem.F.slot_list_append PySem.F.type_list_append cG (aD O.ok.toKOk Nm.g (ab Nm.a (by kernel_rfl) Nd.a) (fun _ => rfl)) (fun _ => rfl) (.cons (bZ (by kernel_rfl) rfl (List.cons_ne_nil _ _) (Nat.le_of_ble_eq_true rfl) (.cons (bV O.t (aN O Nm.d (n := N.d) (by rfl) (aH (by kernel_rfl) (by kernel_rfl)) Nd.d) (aC (by kernel_rfl)) (fun _ _ => rfl)) (.cons (aC (by kernel_rfl)) .nil))) .nil) (fun _ => ⟨_, rfl⟩)) (fun _ => rfl))
  (ai (bj (bC O.ok.toKOk Nm.T ((S.unget O).up (by decide)) (aD O.ok.toKOk Nm.e (ab Nm.a (by kernel_rfl) Nd.a) (fun _ => rfl)) (fun _ => rfl) (.cons (ab Nm.b (by kernel_rfl) Nd.b) .nil) (fun _ => ⟨_, rfl⟩)) (fun _ => rfl))
  (ai (au O.ok.toKOk Nm.i (bE O.ok Nm.ak (ab Nm.a (by kernel_rfl) Nd.a) (fun _ => rfl)) (ab Nm.a (by kernel_rfl) Nd.a) (fun _ => rfl))
  az))) (ai (bj (sBM (by decide) PySem.F.slot_list_append PySem.F.type_list_append cG (aD O.ok.toKOk Nm.g (ab Nm.a (by kernel_rfl) Nd.a) (fun _ => rfl)) (fun _ => rfl) (.cons (bZ (by kernel_rfl) rfl (List.cons_ne_nil _ _) (Nat.le_of_ble_eq_true rfl) (.cons (bV O.t (aN O Nm.d (n := N.d) (by rfl) (aH (by kernel_rfl) (by kernel_rfl)) Nd.d) (aC (by kernel_rfl)) (fun _ _ => rfl)) (.cons (aC (by kernel_rfl)) .nil))) .nil) (fun _ => ⟨_, rfl⟩)) (fun _ => rfl))
  (ai (bj (sBM (by decide) PySem.F.slot_list_append PySem.F.type_list_append cG (aD O.ok.toKOk Nm.g (ab Nm.a (by kernel_rfl) Nd.a) (fun _ => rfl)) (fun _ => rfl) (.cons (bZ (by kernel_rfl) rfl (List.cons_ne_nil _ _) (Nat.le_of_ble_eq_true rfl) (.cons (bV O.t (aN O Nm.d (n := N.d) (by rfl) (aH (by kernel_rfl) (by kernel_rfl)) Nd.d) (aC (by kernel_rfl)) (fun _ _ => rfl)) (.cons (aC (by kernel_rfl)) .nil))) .nil) (fun _ => ⟨_, rfl⟩)) (fun _ => rfl))
  (ai (bj (bC O.ok.toKOk Nm.T ((S.unget O).up (by decide)) (aD O.ok.toKOk Nm.e (ab Nm.a (by kernel_rfl) Nd.a) (fun _ => rfl)) (fun _ => rfl) (.cons (ab Nm.b (by kernel_rfl) Nd.b) .nil) (fun _ => ⟨_, rfl⟩)) (fun _ => rfl))
  (ai (au O.ok.toKOk Nm.i (bE O.ok Nm.F (ab Nm.a (by kernel_rfl) Nd.a) (fun _ => rfl)) (ab Nm.a (by kernel_rfl) Nd.a) (fun _ => rfl))
  az)))))
  az))
  az))
  az))
  az))
  (ai (aS bG)
  az)))
theorem S.tagOpenState (O : KAll w.params K) : SF prog w K 5 353 F.tagOpenState :=
  db (d := 4) O.ftagOpenState (by decide) (by decide +kernel) (fun _ _ _ _ _ _ _ vs h => by obtain ⟨v0, rfl⟩ := cB vs h; kernel_rfl)
    (fun h0 => absurd rfl h0) (fun h0 => absurd rfl h0)
    (fun _ => B.tagOpenState O) (by kernel_rfl) (by kernel_rfl) (by kernel_rfl) (by decide +kernel)
noncomputable def T.closeTagOpenState : TS :=
  (ae (aR N.b (aI N.u 133 F.char (ak N.e (aa N.a)) []))
  (ae (aIf (aq tb .In (aa N.b) (ad (.glob (.ref 27)))) (ae (ah N.m (bh [N.h, N.k, N.b, N.K] [(aU tb (ad (.glob (.ref 48))) (ad (.str [69, 110, 100, 84, 97, 103]))), (aa N.b), (cx []), (ad (.bool false))]) (aa N.a))
  (ae (ah N.i (bg N.aF (aa N.a)) (aa N.a))
  aj)) (ae (aIf (aq tb .Eq (aa N.b) (ad (.str [62]))) (ae (aK (aBM 2 bP (ak N.g (aa N.a)) [(bh [N.h, N.b] [(aU tb (ad (.glob (.ref 48))) (ad (.str [80, 97, 114, 115, 101, 69, 114, 114, 111, 114]))), (ad (.str [101, 120, 112, 101, 99, 116, 101, 100, 45, 99, 108, 111, 115, 105, 110, 103, 45, 116, 97, 103, 45, 98, 117, 116, 45, 103, 111, 116, 45, 114, 105, 103, 104, 116, 45, 98, 114, 97, 99, 107, 101, 116]))])]))
  (ae (ah N.i (bg N.F (aa N.a)) (aa N.a))
  aj)) (ae (aIf (aq tb .Is (aa N.b) (ad (.none))) (ae (aK (aBM 2 bP (ak N.g (aa N.a)) [(bh [N.h, N.b] [(aU tb (ad (.glob (.ref 48))) (ad (.str [80, 97, 114, 115, 101, 69, 114, 114, 111, 114]))), (ad (.str [101, 120, 112, 101, 99, 116, 101, 100, 45, 99, 108, 111, 115, 105, 110, 103, 45, 116, 97, 103, 45, 98, 117, 116, 45, 103, 111, 116, 45, 101, 111, 102]))])]))
  (ae (aK (aBM 2 bP (ak N.g (aa N.a)) [(bh [N.h, N.b] [(aU tb (ad (.glob (.ref 48))) (ad (.str [67, 104, 97, 114, 97, 99, 116, 101, 114, 115]))), (ad (.str [60, 47]))])]))
  (ae (ah N.i (bg N.F (aa N.a)) (aa N.a))
  aj))) (ae (aK (aBM 2 bP (ak N.g (aa N.a)) [(bh [N.h, N.b, N.aP] [(aU tb (ad (.glob (.ref 48))) (ad (.str [80, 97, 114, 115, 101, 69, 114, 114, 111, 114]))), (ad (.str [101, 120, 112, 101, 99, 116, 101, 100, 45, 99, 108, 111, 115, 105, 110, 103, 45, 116, 97, 103, 45, 98, 117, 116, 45, 103, 111, 116, 45, 99, 104, 97, 114])), (bh [N.b] [(aa N.b)])])]))
  (ae (aK (aI N.T 163 F.unget (ak N.e (aa N.a)) [(aa N.b)]))
  (ae (ah N.i (bg N.ak (aa N.a)) (aa N.a))
  aj))))
  aj))
  aj))
  (ae (ay (ad (.bool true)))
  aj)))
noncomputable def F.closeTagOpenState : TF := cL (cM [N.a] []) T.closeTagOpenState
theorem B.closeTagOpenState (O : KAll w.params K) : SS prog w K 4 q (aw fd.closeTagOpenState) f cd (fl q (aw fd.closeTagOpenState) f cd) (aL fd.closeTagOpenState) T.closeTagOpenState :=
  (ai (bD Nm.b (by kernel_rfl) (bC O.ok.toKOk Nm.u ((S.char O).up (by decide)) (aD O.ok.toKOk Nm.e (ab Nm.a (by kernel_rfl) Nd.a) (fun _ => rfl)) (fun _ => rfl) .nil (fun _ => ⟨_, rfl⟩)) (fun _ => rfl))
  (ai (sIf (aJ O.t (ab Nm.b (by kernel_rfl) Nd.b) (aN O Nm.aj (n := N.aj) (by rfl) (aH (by kernel_rfl) (by kernel_rfl)) Nd.aj) (by with_unfolding_all rfl)) (ai (au O.ok.toKOk Nm.m (bZ (by kernel_rfl) rfl (List.cons_ne_nil _ _) (Nat.le_of_ble_eq_true rfl) (.cons (bV O.t (aN O Nm.d (n := N.d) (by rfl) (aH (by kernel_rfl) (by kernel_rfl)) Nd.d) (aC (by kernel_rfl)) (fun _ _ => rfl)) (.cons (ab Nm.b (by kernel_rfl) Nd.b) (.cons (fE (fun _ => rfl) .nil) (.cons bG .nil))))) (ab Nm.a (by kernel_rfl) Nd.a) (fun _ => rfl))
  (ai (au O.ok.toKOk Nm.i (bE O.ok Nm.aF (ab Nm.a (by kernel_rfl) Nd.a) (fun _ => rfl)) (ab Nm.a (by kernel_rfl) Nd.a) (fun _ => rfl))
  az)) (ai (sIf (aJ O.t (ab Nm.b (by kernel_rfl) Nd.b) (aC (by kernel_rfl)) (by with_unfolding_all rfl)) (ai (bj (sBM (by decide) PySem.F.slot_list_append PySem.F.type_list_append cG (aD O.ok.toKOk Nm.g (ab Nm.a (by kernel_rfl) Nd.a) (fun _ => rfl)) (fun _ => rfl) (.cons (bZ (by kernel_rfl) rfl (List.cons_ne_nil _ _) (Nat.le_of_ble_eq_true rfl) (.cons (bV O.t (aN O Nm.d (n := N.d) (by rfl) (aH (by kernel_rfl) (by kernel_rfl)) Nd.d) (aC (by kernel_rfl)) (fun _ _ => rfl)) (.cons (aC (by kernel_rfl)) .nil))) .nil) (fun _ => ⟨_, rfl⟩)) (fun _ => rfl))
  (ai (au O.ok.toKOk Nm.i (bE O.ok Nm.F (ab Nm.a (by kernel_rfl) Nd.a) (fun _ => rfl)) (ab Nm.a (by kernel_rfl) Nd.a) (fun _ => rfl))
  az)) (ai (sIf (aJ O.t (ab Nm.b (by kernel_rfl) Nd.b) (aN O Nm.L (n := N.L) (by rfl) (aH (by kernel_rfl) (by kernel_rfl)) Nd.L) (by with_unfolding_all rfl)) (ai (bj (sBM (by decide) PySem.F.slot_list_append PySem.F.type_list_append cG (aD O.ok.toKOk Nm.g (ab Nm.a (by kernel_rfl) Nd.a) (fun _ => rfl)) (fun _ => rfl) (.cons (bZ (by kernel_rfl) rfl (List.cons_ne_nil _ _) (Nat.le_of_ble_eq_true rfl) (.cons (bV O.t (aN O Nm.d (n := N.d) (by rfl) (aH (by kernel_rfl) (by kernel_rfl)) Nd.d) (aC (by kernel_rfl)) (fun _ _ => rfl)) (.cons (aC (by kernel_rfl)) .nil))) .nil) (fun _ => ⟨_, rfl⟩)) (fun _ => rfl))
  (ai (bj (sBM (by decide) PySem.F.slot_list_append PySem.F.type_list_append cG (aD O.ok.toKOk Nm.g (ab Nm.a (by kernel_rfl) Nd.a) (fun _ => rfl)) (fun _ => rfl) (.cons (bZ (by kernel_rfl) rfl (List.cons_ne_nil _ _) (Nat.le_of_ble_eq_true rfl) (.cons (bV O.t (aN O Nm.d (n := N.d) (by rfl) (aH (by kernel_rfl) (by kernel_rfl)) Nd.d) (aC (by kernel_rfl)) (fun _ _ => rfl)) (.cons (aC (by kernel_rfl)) .nil))) .nil) (fun _ => ⟨_, rfl⟩)) (fun _ => rfl))
  (ai (au O.ok.toKOk Nm.i (bE O.ok Nm.F (ab Nm.a (by kernel_rfl) Nd.a) (fun _ => rfl)) (ab Nm.a (by kernel_rfl) Nd.a) (fun _ => rfl))
  az))) (ai (bj (sBM (by decide) PySem.F.slot_list_append PySem.F.type_list_append cG (aD O.ok.toKOk Nm.g (ab Nm.a (by kernel_rfl) Nd.a) (fun _ => rfl)) (fun _ => rfl) (.cons (bZ (by kernel_rfl) rfl (List.cons_ne_nil _ _) (Nat.le_of_ble_eq_true rfl) (.cons (bV O.t (aN O Nm.d (n := N.d) (by rfl) (aH (by kernel_rfl) (by kernel_rfl)) Nd.d) (aC (by kernel_rfl)) (fun _ _ => rfl)) (.cons (aC (by kernel_rfl)) (.cons (bZ (by kernel_rfl) rfl (List.cons_ne_nil _ _) (Nat.le_of_ble_eq_true rfl) (.cons (ab Nm.b (by kernel_rfl) Nd.b) .nil)) .nil)))) .nil) (fun _ => ⟨_, rfl⟩)) (fun _ => rfl))
  (ai (bj (bC O.ok.toKOk Nm.T ((S.unget O).up (by decide)) (aD O.ok.toKOk Nm.e (ab Nm.a (by kernel_rfl) Nd.a) (fun _ => rfl)) (fun _ => rfl) (.cons (ab Nm.b (by kernel_rfl) Nd.b) .nil) (fun _ => ⟨_, rfl⟩)) (fun _ => rfl))
  (ai (au O.ok.toKOk Nm.i (bE O.ok Nm.ak (ab Nm.a (by kernel_rfl) Nd.a) (fun _ => rfl)) (ab Nm.a (by kernel_rfl) Nd.a) (fun _ => rfl))
  az))))
  az))
  az))
  (ai (aS bG)
  az)))
theorem S.closeTagOpenState (O : KAll w.params K) : SF prog w K 5 360 F.closeTagOpenState :=
  db (d := 4) O.fcloseTagOpenState (by decide) (by decide +kernel) (fun _ _ _ _ _ _ _ vs h => by obtain ⟨v0, rfl⟩ := cB vs h; kernel_rfl)
    (fun h0 => absurd rfl h0) (fun h0 => absurd rfl h0)
    (fun _ => B.closeTagOpenState O) (by kernel_rfl) (by kernel_rfl) (by kernel_rfl) (by decide +kernel)
noncomputable def T.tagNameState : TS :=
  (ae (aR N.b (aI N.u 133 F.char (ak N.e (aa N.a)) []))
  (ae (aIf (aq tb .In (aa N.b) (ad (.glob (.ref 22)))) (ae (ah N.i (bg N.aI (aa N.a)) (aa N.a))
  aj) (ae (aIf (aq tb .Eq (aa N.b) (ad (.str [62]))) (ae (aK (aI N.aw 297 F.emitCurrentToken (aa N.a) []))
  aj) (ae (aIf (aq tb .Is (aa N.b) (ad (.none))) (ae (aK (aBM 2 bP (ak N.g (aa N.a)) [(bh [N.h, N.b] [(aU tb (ad (.glob (.ref 48))) (ad (.str [80, 97, 114, 115, 101, 69, 114, 114, 111, 114]))), (ad (.str [101, 111, 102, 45, 105, 110, 45, 116, 97, 103, 45, 110, 97, 109, 101]))])]))
  (ae (ah N.i (bg N.F (aa N.a)) (aa N.a))
  aj)) (ae (aIf (aq tb .Eq (aa N.b) (ad (.str [47]))) (ae (ah N.i (bg N.aN (aa N.a)) (aa N.a))
  aj) (ae (aIf (aq tb .Eq (aa N.b) (ad (.str [0]))) (ae (aK (aBM 2 bP (ak N.g (aa N.a)) [(bh [N.h, N.b] [(aU tb (ad (.glob (.ref 48))) (ad (.str [80, 97, 114, 115, 101, 69, 114, 114, 111, 114]))), (ad (.str [105, 110, 118, 97, 108, 105, 100, 45, 99, 111, 100, 101, 112, 111, 105, 110, 116]))])]))
  (ae (fY N.k .Add (ak N.m (aa N.a)) (ad (.str [65533])))
  aj)) (ae (fY N.k .Add (ak N.m (aa N.a)) (aa N.b))
  aj))
  aj))
  aj))
  aj))
  aj))
  (ae (ay (ad (.bool true)))
  aj)))
noncomputable def F.tagNameState : TF := cL (cM [N.a] []) T.tagNameState
theorem B.tagNameState (O : KAll w.params K) : SS prog w K 4 q (aw fd.tagNameState) f cd (fl q (aw fd.tagNameState) f cd) (aL fd.tagNameState) T.tagNameState :=
  (ai (bD Nm.b (by kernel_rfl) (bC O.ok.toKOk Nm.u ((S.char O).up (by decide)) (aD O.ok.toKOk Nm.e (ab Nm.a (by kernel_rfl) Nd.a) (fun _ => rfl)) (fun _ => rfl) .nil (fun _ => ⟨_, rfl⟩)) (fun _ => rfl))
  (ai (sIf (aJ O.t (ab Nm.b (by kernel_rfl) Nd.b) (aN O Nm.W (n := N.W) (by rfl) (aH (by kernel_rfl) (by kernel_rfl)) Nd.W) (by with_unfolding_all rfl)) (ai (au O.ok.toKOk Nm.i (bE O.ok Nm.aI (ab Nm.a (by kernel_rfl) Nd.a) (fun _ => rfl)) (ab Nm.a (by kernel_rfl) Nd.a) (fun _ => rfl))
  az) (ai (sIf (aJ O.t (ab Nm.b (by kernel_rfl) Nd.b) (aC (by kernel_rfl)) (by with_unfolding_all rfl)) (ai (bj (bC O.ok.toKOk Nm.aw ((S.emitCurrentToken O).up (by decide)) (ab Nm.a (by kernel_rfl) Nd.a) (fun _ => rfl) .nil (fun _ => ⟨_, rfl⟩)) (fun _ => rfl))
  az) (ai (sIf (aJ O.t (ab Nm.b (by kernel_rfl) Nd.b) (aN O Nm.L (n := N.L) (by rfl) (aH (by kernel_rfl) (by kernel_rfl)) Nd.L) (by with_unfolding_all rfl)) (ai (bj (sBM (by decide) PySem.F.slot_list_append PySem.F.type_list_append cG (aD O.ok.toKOk Nm.g (ab Nm.a (by kernel_rfl) Nd.a) (fun _ => rfl)) (fun _ => rfl) (.cons (bZ (by kernel_rfl) rfl (List.cons_ne_nil _ _) (Nat.le_of_ble_eq_true rfl) (.cons (bV O.t (aN O Nm.d (n := N.d) (by rfl) (aH (by kernel_rfl) (by kernel_rfl)) Nd.d) (aC (by kernel_rfl)) (fun _ _ => rfl)) (.cons (aC (by kernel_rfl)) .nil))) .nil) (fun _ => ⟨_, rfl⟩)) (fun _ => rfl))
  (ai (au O.ok.toKOk Nm.i (bE O.ok Nm.F (ab Nm.a (by kernel_rfl) Nd.a) (fun _ => rfl)) (ab Nm.a (by kernel_rfl) Nd.a) (fun _ => rfl))
  az)) (ai (sIf (aJ O.t (ab Nm.b (by kernel_rfl) Nd.b) (aC (by kernel_rfl)) (by with_unfolding_all rfl)) (ai (au O.ok.toKOk Nm.i (bE O.ok Nm.aN (ab Nm.a (by kernel_rfl) Nd.a) (fun _ => rfl)) (ab Nm.a (by kernel_rfl) Nd.a) (fun _ => rfl))
  az) (ai (sIf (aJ O.t (ab Nm.b (by kernel_rfl) Nd.b) (aC (by kernel_rfl)) (by with_unfolding_all rfl)) (ai (bj (sBM (by decide) PySem.F.slot_list_append PySem.F.type_list_append cG (aD O.ok.toKOk Nm.g (ab Nm.a (by kernel_rfl) Nd.a) (fun _ => rfl)) (fun _ => rfl) (.cons (bZ (by kernel_rfl) rfl (List.cons_ne_nil _ _) (Nat.le_of_ble_eq_true rfl) (.cons (bV O.t (aN O Nm.d (n := N.d) (by rfl) (aH (by kernel_rfl) (by kernel_rfl)) Nd.d) (aC (by kernel_rfl)) (fun _ _ => rfl)) (.cons (aC (by kernel_rfl)) .nil))) .nil) (fun _ => ⟨_, rfl⟩)) (fun _ => rfl))
  (ai (lT Nm.k (aD O.ok.toKOk Nm.m (ab Nm.a (by kernel_rfl) Nd.a) (fun _ => rfl)) (aC (by kernel_rfl)))
  az)) (ai (lT Nm.k (aD O.ok.toKOk Nm.m (ab Nm.a (by kernel_rfl) Nd.a) (fun _ => rfl)) (ab Nm.b (by kernel_rfl) Nd.b))
  az))
  az))
  az))
  az))
  az))
  (ai (aS bG)
  az)))
theorem S.tagNameState (O : KAll w.params K) : SF prog w K 5 367 F.tagNameState :=
  db (d := 4) O.ftagNameState (by decide) (by decide +kernel) (fun _ _ _ _ _ _ _ vs h => by obtain ⟨v0, rfl⟩ := cB vs h; kernel_rfl)
    (fun h0 => absurd rfl h0) (fun h0 => absurd rfl h0)
    (fun _ => B.tagNameState O) (by kernel_rfl) (by kernel_rfl) (by kernel_rfl) (by decide +kernel)
noncomputable def T.beforeAttributeNameState : TS :=
  (ae (aR N.b (aI N.u 133 F.char (ak N.e (aa N.a)) []))
  (ae (aIf (aq tb .In (aa N.b) (ad (.glob (.ref 22)))) (ae (aK (aI N.N 156 F.charsUntil (ak N.e (aa N.a)) [(ad (.glob (.ref 22))), (ad (.bool true))]))
  aj) (ae (aIf (aq tb .In (aa N.b) (ad (.glob (.ref 27)))) (ae (aK (aBM 2 bP (dB N.b (ak N.m (aa N.a))) [(cx [(aa N.b), (ad (.str []))])]))
  (ae (ah N.i (bg N.ao (aa N.a)) (aa N.a))
  aj)) (ae (aIf (aq tb .Eq (aa N.b) (ad (.str [62]))) (ae (aK (aI N.aw 297 F.emitCurrentToken (aa N.a) []))
  aj) (ae (aIf (aq tb .Eq (aa N.b) (ad (.str [47]))) (ae (ah N.i (bg N.aN (aa N.a)) (aa N.a))
  aj) (ae (aIf (aq tb .In (aa N.b) (bq [(ad (.str [39])), (ad (.str [34])), (ad (.str [61])), (ad (.str [60]))])) (ae (aK (aBM 2 bP (ak N.g (aa N.a)) [(bh [N.h, N.b] [(aU tb (ad (.glob (.ref 48))) (ad (.str [80, 97, 114, 115, 101, 69, 114, 114, 111, 114]))), (ad (.str [105, 110, 118, 97, 108, 105, 100, 45, 99, 104, 97, 114, 97, 99, 116, 101, 114, 45, 105, 110, 45, 97, 116, 116, 114, 105, 98, 117, 116, 101, 45, 110, 97, 109, 101]))])]))
  (ae (aK (aBM 2 bP (dB N.b (ak N.m (aa N.a))) [(cx [(aa N.b), (ad (.str []))])]))
  (ae (ah N.i (bg N.ao (aa N.a)) (aa N.a))
  aj))) (ae (aIf (aq tb .Eq (aa N.b) (ad (.str [0]))) (ae (aK (aBM 2 bP (ak N.g (aa N.a)) [(bh [N.h, N.b] [(aU tb (ad (.glob (.ref 48))) (ad (.str [80, 97, 114, 115, 101, 69, 114, 114, 111, 114]))), (ad (.str [105, 110, 118, 97, 108, 105, 100, 45, 99, 111, 100, 101, 112, 111, 105, 110, 116]))])]))
  (ae (aK (aBM 2 bP (dB N.b (ak N.m (aa N.a))) [(cx [(ad (.str [65533])), (ad (.str []))])]))
  (ae (ah N.i (bg N.ao (aa N.a)) (aa N.a))
  aj))) (ae (aIf (aq tb .Is (aa N.b) (ad (.none))) (ae (aK (aBM 2 bP (ak N.g (aa N.a)) [(bh [N.h, N.b] [(aU tb (ad (.glob (.ref 48))) (ad (.str [80, 97, 114, 115, 101, 69, 114, 114, 111, 114]))), (ad (.str [101, 120, 112, 101, 99, 116, 101, 100, 45, 97, 116, 116, 114, 105, 98, 117, 116, 101, 45, 110, 97, 109, 101, 45, 98, 117, 116, 45, 103, 111, 116, 45, 101, 111, 102]))])]))
  (ae (ah N.i (bg N.F (aa N.a)) (aa N.a))
  aj)) (ae (aK (aBM 2 bP (dB N.b (ak N.m (aa N.a))) [(cx [(aa N.b), (ad (.str []))])]))
  (ae (ah N.i (bg N.ao (aa N.a)) (aa N.a))
  aj)))
  aj))
  aj))
  aj))
  aj))
  aj))
  aj))
  (ae (ay (ad (.bool true)))
  aj)))
noncomputable def F.beforeAttributeNameState : TF := cL (cM [N.a] []) T.beforeAttributeNameState
theorem B.beforeAttributeNameState (O : KAll w.params K) : SS prog w K 4 q (aw fd.beforeAttributeNameState) f cd (fl q (aw fd.beforeAttributeNameState) f cd) (aL fd.beforeAttributeNameState) T.beforeAttributeNameState :=
  (ai (bD Nm.b (by kernel_rfl) (bC O.ok.toKOk Nm.u ((S.char O).up (by decide)) (aD O.ok.toKOk Nm.e (ab Nm.a (by kernel_rfl) Nd.a) (fun _ => rfl)) (fun _ => rfl) .nil (fun _ => ⟨_, rfl⟩)) (fun _ => rfl))
  (ai (sIf (aJ O.t (ab Nm.b (by kernel_rfl) Nd.b) (aN O Nm.W (n := N.W) (by rfl) (aH (by kernel_rfl) (by kernel_rfl)) Nd.W) (by with_unfolding_all rfl)) (ai (bj (bC O.ok.toKOk Nm.N ((S.charsUntil O).up (by decide)) (aD O.ok.toKOk Nm.e (ab Nm.a (by kernel_rfl) Nd.a) (fun _ => rfl)) (fun _ => rfl) (.cons (aN O Nm.W (n := N.W) (by rfl) (aH (by kernel_rfl) (by kernel_rfl)) Nd.W) (.cons bG .nil)) (fun _ => ⟨_, rfl⟩)) (fun _ => rfl))
  az) (ai (sIf (aJ O.t (ab Nm.b (by kernel_rfl) Nd.b) (aN O Nm.aj (n := N.aj) (by rfl) (aH (by kernel_rfl) (by kernel_rfl)) Nd.aj) (by with_unfolding_all rfl)) (ai (bj (sBM (by decide) PySem.F.slot_list_append PySem.F.type_list_append cG (dS Nm.b (aD O.ok.toKOk Nm.m (ab Nm.a (by kernel_rfl) Nd.a) (fun _ => rfl))) (fun _ => rfl) (.cons (fE (fun _ => rfl) (.cons (ab Nm.b (by kernel_rfl) Nd.b) (.cons (aC (by kernel_rfl)) .nil))) .nil) (fun _ => ⟨_, rfl⟩)) (fun _ => rfl))
  (ai (au O.ok.toKOk Nm.i (bE O.ok Nm.ao (ab Nm.a (by kernel_rfl) Nd.a) (fun _ => rfl)) (ab Nm.a (by kernel_rfl) Nd.a) (fun _ => rfl))
  az)) (ai (sIf (aJ O.t (ab Nm.b (by kernel_rfl) Nd.b) (aC (by kernel_rfl)) (by with_unfolding_all rfl)) (ai (bj (bC O.ok.toKOk Nm.aw ((S.emitCurrentToken O).up (by decide)) (ab Nm.a (by kernel_rfl) Nd.a) (fun _ => rfl) .nil (fun _ => ⟨_, rfl⟩)) (fun _ => rfl))
  az) (ai (sIf (aJ O.t (ab Nm.b (by kernel_rfl) Nd.b) (aC (by kernel_rfl)) (by with_unfolding_all rfl)) (ai (au O.ok.toKOk Nm.i (bE O.ok Nm.aN (ab Nm.a (by kernel_rfl) Nd.a) (fun _ => rfl)) (ab Nm.a (by kernel_rfl) Nd.a) (fun _ => rfl))
  az) (ai (sIf (aJ O.t (ab Nm.b (by kernel_rfl) Nd.b) (dy (fun _ => rfl) (.cons (aC (by kernel_rfl)) (.cons (aC (by kernel_rfl)) (.cons (aC (by kernel_rfl)) (.cons (aC (by kernel_rfl)) .nil))))) (by with_unfolding_all rfl)) (ai (bj (sBM (by decide) PySem.F.slot_list_append PySem.F.type_list_append cG (aD O.ok.toKOk Nm.g (ab Nm.a (by kernel_rfl) Nd.a) (fun _ => rfl)) (fun _ => rfl) (.cons (bZ (by kernel_rfl) rfl (List.cons_ne_nil _ _) (Nat.le_of_ble_eq_true rfl) (.cons (bV O.t (aN O Nm.d (n := N.d) (by rfl) (aH (by kernel_rfl) (by kernel_rfl)) Nd.d) (aC (by kernel_rfl)) (fun _ _ => rfl)) (.cons (aC (by kernel_rfl)) .nil))) .nil) (fun _ => ⟨_, rfl⟩)) (fun _ => rfl))
  (ai (bj (sBM (by decide) PySem.F.slot_list_append PySem.F.type_list_append cG (dS Nm.b (aD O.ok.toKOk Nm.m (ab Nm.a (by kernel_rfl) Nd.a) (fun _ => rfl))) (fun _ => rfl) (.cons (fE (fun _ => rfl) (.cons (ab Nm.b (by kernel_rfl) Nd.b) (.cons (aC (by kernel_rfl)) .nil))) .nil) (fun _ => ⟨_, rfl⟩)) (fun _ => rfl))
  (ai (au O.ok.toKOk Nm.i (bE O.ok Nm.ao (ab Nm.a (by kernel_rfl) Nd.a) (fun _ => rfl)) (ab Nm.a (by kernel_rfl) Nd.a) (fun _ => rfl))
  az))) (ai (sIf (aJ O.t (ab Nm.b (by kernel_rfl) Nd.b) (aC (by kernel_rfl)) (by with_unfolding_all rfl)) (ai (bj (sBM (by decide) PySem.F.slot_list_append PySem.F.type_list_append cG (aD O.ok.toKOk Nm.g (ab Nm.a (by kernel_rfl) Nd.a) (fun _ => rfl)) (fun _ => rfl) (.cons (bZ (by kernel_rfl) rfl (List.cons_ne_nil _ _) (Nat.le_of_ble_eq_true rfl) (.cons (bV O.t (aN O Nm.d (n := N.d) (by rfl) (aH (by kernel_rfl) (by kernel_rfl)) Nd.d) (aC (by kernel_rfl)) (fun _ _ => rfl)) (.cons (aC (by kernel_rfl)) .nil))) .nil) (fun _ => ⟨_, rfl⟩)) (fun _ => rfl))
  (ai (bj (sBM (by decide) PySem.F.slot_list_append PySem.F.type_list_append cG (dS Nm.b (aD O.ok.toKOk Nm.m (ab Nm.a (by kernel_rfl) Nd.a) (fun _ => rfl))) (fun _ => rfl) (.cons (fE (fun _ => rfl) (.cons (aC (by kernel_rfl)) (.cons (aC (by kernel_rfl)) .nil))) .nil) (fun _ => ⟨_, rfl⟩)) (fun _ => rfl))
  (ai (au O.ok.toKOk Nm.i (bE O.ok Nm.ao (ab Nm.a (by kernel_rfl) Nd.a) (fun _ => rfl)) (ab Nm.a (by kernel_rfl) Nd.a) (fun _ => rfl))
  az))) (ai (sIf (aJ O.t (ab Nm.b (by kernel_rfl) Nd.b) (aN O Nm.L (n := N.L) (by rfl) (aH (by kernel_rfl) (by kernel_rfl)) Nd.L) (by with_unfolding_all rfl)) (ai (bj (sBM (by decide) PySem.F.slot_list_append PySem.F.type_list_append cG (aD O.ok.toKOk Nm.g (ab Nm.a (by kernel_rfl) Nd.a) (fun _ => rfl)) (fun _ => rfl) (.cons (bZ (by kernel_rfl) rfl (List.cons_ne_nil _ _) (Nat.le_of_ble_eq_true rfl) (.cons (bV O.t (aN O Nm.d (n := N.d) (by rfl) (aH (by kernel_rfl) (by kernel_rfl)) Nd.d) (aC (by kernel_rfl)) (fun _ _ => rfl)) (.cons (aC (by kernel_rfl)) .nil))) .nil) (fun _ => ⟨_, rfl⟩)) (fun _ => rfl))
  (ai (au O.ok.toKOk Nm.i (bE O.ok Nm.F (ab Nm.a (by kernel_rfl) Nd.a) (fun _ => rfl)) (ab Nm.a (by kernel_rfl) Nd.a) (fun _ => rfl))
  az)) (ai (bj (sBM (by decide) PySem.F.slot_list_append PySem.F.type_list_append cG (dS Nm.b (aD O.ok.toKOk Nm.m (ab Nm.a (by kernel_rfl) Nd.a) (fun _ => rfl))) (fun _ => rfl) (.cons (fE (fun _ => rfl) (.cons (ab Nm.b (by kernel_rfl) Nd.b) (.cons (aC (by kernel_rfl)) .nil))) .nil) (fun _ => ⟨_, rfl⟩)) (fun _ => rfl))
  (ai (au O.ok.toKOk Nm.i (bE O.ok Nm.ao (ab Nm.a (by kernel_rfl) Nd.a) (fun _ => rfl)) (ab Nm.a (by kernel_rfl) Nd.a) (fun _ => rfl))
  az)))
  az))
  az))
  az))
  az))
  az))
  az))
  (ai (aS bG)
  az)))
theorem S.beforeAttributeNameState (O : KAll w.params K) : SF prog w K 5 535 F.beforeAttributeNameState :=
  db (d := 4) O.fbeforeAttributeNameState (by decide) (by decide +kernel) (fun _ _ _ _ _ _ _ vs h => by obtain ⟨v0, rfl⟩ := cB vs h; kernel_rfl)
    (fun h0 => absurd rfl h0) (fun h0 => absurd rfl h0)
    (fun _ => B.beforeAttributeNameState O) (by kernel_rfl) (by kernel_rfl) (by kernel_rfl) (by decide +kernel)
noncomputable def T.selfClosingStartTagState : TS :=
  (ae (aR N.b (aI N.u 133 F.char (ak N.e (aa N.a)) []))
  (ae (aIf (aq tb .Eq (aa N.b) (ad (.str [62]))) (ae (dJ N.K (ad (.bool true)) (ak N.m (aa N.a)))
  (ae (aK (aI N.aw 297 F.emitCurrentToken (aa N.a) []))
  aj)) (ae (aIf (aq tb .Is (aa N.b) (ad (.none))) (ae (aK (aBM 2 bP (ak N.g (aa N.a)) [(bh [N.h, N.b] [(aU tb (ad (.glob (.ref 48))) (ad (.str [80, 97, 114, 115, 101, 69, 114, 114, 111, 114]))), (ad (.str [117, 110, 101, 120, 112, 101, 99, 116, 101, 100, 45, 69, 79, 70, 45, 97, 102, 116, 101, 114, 45, 115, 111, 108, 105, 100, 117, 115, 45, 105, 110, 45, 116, 97, 103]))])]))
  (ae (aK (aI N.T 163 F.unget (ak N.e (aa N.a)) [(aa N.b)]))
  (ae (ah N.i (bg N.F (aa N.a)) (aa N.a))
  aj))) (ae (aK (aBM 2 bP (ak N.g (aa N.a)) [(bh [N.h, N.b] [(aU tb (ad (.glob (.ref 48))) (ad (.str [80, 97, 114, 115, 101, 69, 114, 114, 111, 114]))), (ad (.str [117, 110, 101, 120, 112, 101, 99, 116, 101, 100, 45, 99, 104, 97, 114, 97, 99, 116, 101, 114, 45, 97, 102, 116, 101, 114, 45, 115, 111, 108, 105, 100, 117, 115, 45, 105, 110, 45, 116, 97, 103]))])]))
  (ae (aK (aI N.T 163 F.unget (ak N.e (aa N.a)) [(aa N.b)]))
  (ae (ah N.i (bg N.aI (aa N.a)) (aa N.a))
  aj))))
  aj))
  (ae (ay (ad (.bool true)))
  aj)))
noncomputable def F.selfClosingStartTagState : TF := cL (cM [N.a] []) T.selfClosingStartTagState
theorem B.selfClosingStartTagState (O : KAll w.params K) : SS prog w K 4 q (aw fd.selfClosingStartTagState) f cd (fl q (aw fd.selfClosingStartTagState) f cd) (aL fd.selfClosingStartTagState) T.selfClosingStartTagState :=
  (ai (bD Nm.b (by kernel_rfl) (bC O.ok.toKOk Nm.u ((S.char O).up (by decide)) (aD O.ok.toKOk Nm.e (ab Nm.a (by kernel_rfl) Nd.a) (fun _ => rfl)) (fun _ => rfl) .nil (fun _ => ⟨_, rfl⟩)) (fun _ => rfl))
  (ai (sIf (aJ O.t (ab Nm.b (by kernel_rfl) Nd.b) (aC (by kernel_rfl)) (by with_unfolding_all rfl)) (ai (jI Nm.K bG (aD O.ok.toKOk Nm.m (ab Nm.a (by kernel_rfl) Nd.a) (fun _ => rfl)) (fun _ => rfl))
  (ai (bj (bC O.ok.toKOk Nm.aw ((S.emitCurrentToken O).up (by decide)) (ab Nm.a (by kernel_rfl) Nd.a) (fun _ => rfl) .nil (fun _ => ⟨_, rfl⟩)) (fun _ => rfl))
  az)) (ai (sIf (aJ O.t (ab Nm.b (by kernel_rfl) Nd.b) (aN O Nm.L (n := N.L) (by rfl) (aH (by kernel_rfl) (by kernel_rfl)) Nd.L) (by with_unfolding_all rfl)) (ai (bj (sBM (by decide) PySem.F.slot_list_append PySem.F.type_list_append cG (aD O.ok.toKOk Nm.g (ab Nm.a (by kernel_rfl) Nd.a) (fun _ => rfl)) (fun _ => rfl) (.cons (bZ (by kernel_rfl) rfl (List.cons_ne_nil _ _) (Nat.le_of_ble_eq_true rfl) (.cons (bV O.t (aN O Nm.d (n := N.d) (by rfl) (aH (by kernel_rfl) (by kernel_rfl)) Nd.d) (aC (by kernel_rfl)) (fun _ _ => rfl)) (.cons (aC (by kernel_rfl)) .nil))) .nil) (fun _ => ⟨_, rfl⟩)) (fun _ => rfl))
  (ai (bj (bC O.ok.toKOk Nm.T ((S.unget O).up (by decide)) (aD O.ok.toKOk Nm.e (ab Nm.a (by kernel_rfl) Nd.a) (fun _ => rfl)) (fun _ => rfl) (.cons (ab Nm.b (by kernel_rfl) Nd.b) .nil) (fun _ => ⟨_, rfl⟩)) (fun _ => rfl))
  (ai (au O.ok.toKOk Nm.i (bE O.ok Nm.F (ab Nm.a (by kernel_rfl) Nd.a) (fun _ => rfl)) (ab Nm.a (by kernel_rfl) Nd.a) (fun _ => rfl))
  az))) (ai (bj (sBM (by decide) PySem.F.slot_list_append PySem.F.type_list_append cG (aD O.ok.toKOk Nm.g (ab Nm.a (by kernel_rfl) Nd.a) (fun _ => rfl)) (fun _ => rfl) (.cons (bZ (by kernel_rfl) rfl (List.cons_ne_nil _ _) (Nat.le_of_ble_eq_true rfl) (.cons (bV O.t (aN O Nm.d (n := N.d) (by rfl) (aH (by kernel_rfl) (by kernel_rfl)) Nd.d) (aC (by kernel_rfl)) (fun _ _ => rfl)) (.cons (aC (by kernel_rfl)) .nil))) .nil) (fun _ => ⟨_, rfl⟩)) (fun _ => rfl))
  (ai (bj (bC O.ok.toKOk Nm.T ((S.unget O).up (by decide)) (aD O.ok.toKOk Nm.e (ab Nm.a (by kernel_rfl) Nd.a) (fun _ => rfl)) (fun _ => rfl) (.cons (ab Nm.b (by kernel_rfl) Nd.b) .nil) (fun _ => ⟨_, rfl⟩)) (fun _ => rfl))
  (ai (au O.ok.toKOk Nm.i (bE O.ok Nm.aI (ab Nm.a (by kernel_rfl) Nd.a) (fun _ => rfl)) (ab Nm.a (by kernel_rfl) Nd.a) (fun _ => rfl))
  az))))
  az))
  (ai (aS bG)
  az)))
theorem S.selfClosingStartTagState (O : KAll w.params K) : SF prog w K 5 591 F.selfClosingStartTagState :=
  db (d := 4) O.fselfClosingStartTagState (by decide) (by decide +kernel) (fun _ _ _ _ _ _ _ vs h => by obtain ⟨v0, rfl⟩ := cB vs h; kernel_rfl)
    (fun h0 => absurd rfl h0) (fun h0 => absurd rfl h0)
    (fun _ => B.selfClosingStartTagState O) (by kernel_rfl) (by kernel_rfl) (by kernel_rfl) (by decide +kernel)
noncomputable def T.bogusCommentState : TS :=
  (ae (aR N.b (aI N.N 156 F.charsUntil (ak N.e (aa N.a)) [(ad (.str [62]))]))
  (ae (aR N.b (gH [0] [65533] (aa N.b)))
  (ae (aK (aBM 2 bP (ak N.g (aa N.a)) [(bh [N.h, N.b] [(aU tb (ad (.glob (.ref 48))) (ad (.str [67, 111, 109, 109, 101, 110, 116]))), (aa N.b)])]))
  (ae (aK (aI N.u 133 F.char (ak N.e (aa N.a)) []))
  (ae (ah N.i (bg N.F (aa N.a)) (aa N.a))
  (ae (ay (ad (.bool true)))
  aj))))))
noncomputable def F.bogusCommentState : TF := cL (cM [N.a] []) T.bogusCommentState
theorem B.bogusCommentState (O : KAll w.params K) : SS prog w K 4 q (aw fd.bogusCommentState) f cd (fl q (aw fd.bogusCommentState) f cd) (aL fd.bogusCommentState) T.bogusCommentState :=
  (ai (bD Nm.b (by kernel_rfl) (bC O.ok.toKOk Nm.N ((S.charsUntil O).up (by decide)) (aD O.ok.toKOk Nm.e (ab Nm.a (by kernel_rfl) Nd.a) (fun _ => rfl)) (fun _ => rfl) (.cons (aC (by kernel_rfl)) .nil) (fun _ => ⟨_, rfl⟩)) (fun _ => rfl))
  (ai (bD Nm.b (by kernel_rfl) (pG rfl PySem.F.slot_str_replace PySem.F.type_str_replace (by kernel_rfl) (by kernel_rfl) (ab Nm.b (by kernel_rfl) Nd.b) (fun _ => rfl) (fun _ => ⟨_, rfl⟩)) (fun _ => rfl))
  (ai (bj (sBM (by decide) PySem.F.slot_list_append PySem.F.type_list_append cG (aD O.ok.toKOk Nm.g (ab Nm.a (by kernel_rfl) Nd.a) (fun _ => rfl)) (fun _ => rfl) (.cons (bZ (by kernel_rfl) rfl (List.cons_ne_nil _ _) (Nat.le_of_ble_eq_true rfl) (.cons (bV O.t (aN O Nm.d (n := N.d) (by rfl) (aH (by kernel_rfl) (by kernel_rfl)) Nd.d) (aC (by kernel_rfl)) (fun _ _ => rfl)) (.cons (ab Nm.b (by kernel_rfl) Nd.b) .nil))) .nil) (fun _ => ⟨_, rfl⟩)) (fun _ => rfl))
  (ai (bj (bC O.ok.toKOk Nm.u ((S.char O).up (by decide)) (aD O.ok.toKOk Nm.e (ab Nm.a (by kernel_rfl) Nd.a) (fun _ => rfl)) (fun _ => rfl) .nil (fun _ => ⟨_, rfl⟩)) (fun _ => rfl))
  (ai (au O.ok.toKOk Nm.i (bE O.ok Nm.F (ab Nm.a (by kernel_rfl) Nd.a) (fun _ => rfl)) (ab Nm.a (by kernel_rfl) Nd.a) (fun _ => rfl))
  (ai (aS bG)
  az))))))
theorem S.bogusCommentState (O : KAll w.params K) : SF prog w K 5 598 F.bogusCommentState :=
  db (d := 4) O.fbogusCommentState (by decide) (by decide +kernel) (fun _ _ _ _ _ _ _ vs h => by obtain ⟨v0, rfl⟩ := cB vs h; kernel_rfl)
    (fun h0 => absurd rfl h0) (fun h0 => absurd rfl h0)
    (fun _ => B.bogusCommentState O) (by kernel_rfl) (by kernel_rfl) (by kernel_rfl) (by decide +kernel)
noncomputable def T.markupDeclarationOpenState : TS :=
  (ae (aR N.l (cx [(aI N.u 133 F.char (ak N.e (aa N.a)) [])]))
  (ae (aIf (aq tb .Eq (aU tb (aa N.l) (dE (ad (.int 1)))) (ad (.str [45]))) (ae (aK (aBM 2 bP (aa N.l) [(aI N.u 133 F.char (ak N.e (aa N.a)) [])]))
  (ae (aIf (aq tb .Eq (aU tb (aa N.l) (dE (ad (.int 1)))) (ad (.str [45]))) (ae (ah N.m (bh [N.h, N.b] [(aU tb (ad (.glob (.ref 48))) (ad (.str [67, 111, 109, 109, 101, 110, 116]))), (ad (.str []))]) (aa N.a))
  (ae (ah N.i (bg N.bd (aa N.a)) (aa N.a))
  (ae (ay (ad (.bool true)))
  aj))) aj)
  aj)) (ae (aIf (aq tb .In (aU tb (aa N.l) (dE (ad (.int 1)))) (bq [(ad (.str [100])), (ad (.str [68]))])) (ae (aR N.S (ad (.bool true)))
  (ae (mN tb (bq [(bq [(ad (.str [111])), (ad (.str [79]))]), (bq [(ad (.str [99])), (ad (.str [67]))]), (bq [(ad (.str [116])), (ad (.str [84]))]), (bq [(ad (.str [121])), (ad (.str [89]))]), (bq [(ad (.str [112])), (ad (.str [80]))]), (bq [(ad (.str [101])), (ad (.str [69]))])]) (aY N.X) (ae (aK (aBM 2 bP (aa N.l) [(aI N.u 133 F.char (ak N.e (aa N.a)) [])]))
  (ae (aIf (aq tb .NotIn (aU tb (aa N.l) (dE (ad (.int 1)))) (aa N.X)) (ae (aR N.S (ad (.bool false)))
  (ae (hJ .brk)
  aj)) aj)
  aj)))
  (ae (aIf (bY tb (aa N.S)) (ae (ah N.m (bh [N.h, N.k, N.aB, N.aE, N.av] [(aU tb (ad (.glob (.ref 48))) (ad (.str [68, 111, 99, 116, 121, 112, 101]))), (ad (.str [])), (ad .none), (ad .none), (ad (.bool true))]) (aa N.a))
  (ae (ah N.i (bg N.be (aa N.a)) (aa N.a))
  (ae (ay (ad (.bool true)))
  aj))) aj)
  aj))) aj)
  aj))
  (ae (aK (aBM 2 bP (ak N.g (aa N.a)) [(bh [N.h, N.b] [(aU tb (ad (.glob (.ref 48))) (ad (.str [80, 97, 114, 115, 101, 69, 114, 114, 111, 114]))), (ad (.str [101, 120, 112, 101, 99, 116, 101, 100, 45, 100, 97, 115, 104, 101, 115, 45, 111, 114, 45, 100, 111, 99, 116, 121, 112, 101]))])]))
  (ae (dU (bY tb (aa N.l)) (ae (aK (aI N.T 163 F.unget (ak N.e (aa N.a)) [(aBM 2 nR (aa N.l) [])]))
  aj))
  (ae (ah N.i (bg N.ak (aa N.a)) (aa N.a))
  (ae (ay (ad (.bool true)))
  aj))))))
noncomputable def F.markupDeclarationOpenState : TF := cL (cM [N.a] []) T.markupDeclarationOpenState
theorem B.markupDeclarationOpenState (O : KAll w.params K) : SS prog w K 4 q (aw fd.markupDeclarationOpenState) f cd (fl q (aw fd.markupDeclarationOpenState) f cd) (aL fd.markupDeclarationOpenState) T.markupDeclarationOpenState :=
  (ai (bD Nm.l (by kernel_rfl) (fE (fun _ => rfl) (.cons (bC O.ok.toKOk Nm.u ((S.char O).up (by decide)) (aD O.ok.toKOk Nm.e (ab Nm.a (by kernel_rfl) Nd.a) (fun _ => rfl)) (fun _ => rfl) .nil (fun _ => ⟨_, rfl⟩)) .nil)) (fun _ => rfl))
  (ai (sIf (aJ O.t (bV O.t (ab Nm.l (by kernel_rfl) Nd.l) (kr bw) (fun _ _ => rfl)) (aC (by kernel_rfl)) (by with_unfolding_all rfl)) (ai (bj (sBM (by decide) PySem.F.slot_list_append PySem.F.type_list_append cG (ab Nm.l (by kernel_rfl) Nd.l) (fun _ => rfl) (.cons (bC O.ok.toKOk Nm.u ((S.char O).up (by decide)) (aD O.ok.toKOk Nm.e (ab Nm.a (by kernel_rfl) Nd.a) (fun _ => rfl)) (fun _ => rfl) .nil (fun _ => ⟨_, rfl⟩)) .nil) (fun _ => ⟨_, rfl⟩)) (fun _ => rfl))
  (ai (sIf (aJ O.t (bV O.t (ab Nm.l (by kernel_rfl) Nd.l) (kr bw) (fun _ _ => rfl)) (aC (by kernel_rfl)) (by with_unfolding_all rfl)) (ai (au O.ok.toKOk Nm.m (bZ (by kernel_rfl) rfl (List.cons_ne_nil _ _) (Nat.le_of_ble_eq_true rfl) (.cons (bV O.t (aN O Nm.d (n := N.d) (by rfl) (aH (by kernel_rfl) (by kernel_rfl)) Nd.d) (aC (by kernel_rfl)) (fun _ _ => rfl)) (.cons (aC (by kernel_rfl)) .nil))) (ab Nm.a (by kernel_rfl) Nd.a) (fun _ => rfl))
  (ai (au O.ok.toKOk Nm.i (bE O.ok Nm.bd (ab Nm.a (by kernel_rfl) Nd.a) (fun _ => rfl)) (ab Nm.a (by kernel_rfl) Nd.a) (fun _ => rfl))
  (ai (aS bG)
  az))) az)
  az)) (ai (sIf (aJ O.t (bV O.t (ab Nm.l (by kernel_rfl) Nd.l) (kr bw) (fun _ _ => rfl)) (dy (fun _ => rfl) (.cons (aC (by kernel_rfl)) (.cons (aC (by kernel_rfl)) .nil))) (by with_unfolding_all rfl)) (ai (bD Nm.S (by kernel_rfl) bG (fun _ => rfl))
  (ai (qU O.t (dy (fun _ => rfl) (.cons (dy (fun _ => rfl) (.cons (aC (by kernel_rfl)) (.cons (aC (by kernel_rfl)) .nil))) (.cons (dy (fun _ => rfl) (.cons (aC (by kernel_rfl)) (.cons (aC (by kernel_rfl)) .nil))) (.cons (dy (fun _ => rfl) (.cons (aC (by kernel_rfl)) (.cons (aC (by kernel_rfl)) .nil))) (.cons (dy (fun _ => rfl) (.cons (aC (by kernel_rfl)) (.cons (aC (by kernel_rfl)) .nil))) (.cons (dy (fun _ => rfl) (.cons (aC (by kernel_rfl)) (.cons (aC (by kernel_rfl)) .nil))) (.cons (dy (fun _ => rfl) (.cons (aC (by kernel_rfl)) (.cons (aC (by kernel_rfl)) .nil))) .nil))))))) (c9 Nm.X (by kernel_rfl)) (ai (bj (sBM (by decide) PySem.F.slot_list_append PySem.F.type_list_append cG (ab Nm.l (by kernel_rfl) Nd.l) (fun _ => rfl) (.cons (bC O.ok.toKOk Nm.u ((S.char O).up (by decide)) (aD O.ok.toKOk Nm.e (ab Nm.a (by kernel_rfl) Nd.a) (fun _ => rfl)) (fun _ => rfl) .nil (fun _ => ⟨_, rfl⟩)) .nil) (fun _ => ⟨_, rfl⟩)) (fun _ => rfl))
  (ai (sIf (aJ O.t (bV O.t (ab Nm.l (by kernel_rfl) Nd.l) (kr bw) (fun _ _ => rfl)) (ab Nm.X (by kernel_rfl) Nd.X) (by with_unfolding_all rfl)) (ai (bD Nm.S (by kernel_rfl) bG (fun _ => rfl))
  (ai jq
  az)) az)
  az)) (fun _ _ => rfl) (fun _ _ => rfl))
  (ai (sIf (eX (ab Nm.S (by kernel_rfl) Nd.S) (fun _ => rfl)) (ai (au O.ok.toKOk Nm.m (bZ (by kernel_rfl) rfl (List.cons_ne_nil _ _) (Nat.le_of_ble_eq_true rfl) (.cons (bV O.t (aN O Nm.d (n := N.d) (by rfl) (aH (by kernel_rfl) (by kernel_rfl)) Nd.d) (aC (by kernel_rfl)) (fun _ _ => rfl)) (.cons (aC (by kernel_rfl)) (.cons eV (.cons eV (.cons bG .nil)))))) (ab Nm.a (by kernel_rfl) Nd.a) (fun _ => rfl))
  (ai (au O.ok.toKOk Nm.i (bE O.ok Nm.be (ab Nm.a (by kernel_rfl) Nd.a) (fun _ => rfl)) (ab Nm.a (by kernel_rfl) Nd.a) (fun _ => rfl))
  (ai (aS bG)
  az))) az)
  az))) az)
  az))
  (ai (bj (sBM (by decide) PySem.F.slot_list_append PySem.F.type_list_append cG (aD O.ok.toKOk Nm.g (ab Nm.a (by kernel_rfl) Nd.a) (fun _ => rfl)) (fun _ => rfl) (.cons (bZ (by kernel_rfl) rfl (List.cons_ne_nil _ _) (Nat.le_of_ble_eq_true rfl) (.cons (bV O.t (aN O Nm.d (n := N.d) (by rfl) (aH (by kernel_rfl) (by kernel_rfl)) Nd.d) (aC (by kernel_rfl)) (fun _ _ => rfl)) (.cons (aC (by kernel_rfl)) .nil))) .nil) (fun _ => ⟨_, rfl⟩)) (fun _ => rfl))
  (ai (jJ (eX (ab Nm.l (by kernel_rfl) Nd.l) (fun _ => rfl)) (ai (bj (bC O.ok.toKOk Nm.T ((S.unget O).up (by decide)) (aD O.ok.toKOk Nm.e (ab Nm.a (by kernel_rfl) Nd.a) (fun _ => rfl)) (fun _ => rfl) (.cons (sBM (by decide) PySem.F.slot_list_pop PySem.F.type_list_pop sJ (ab Nm.l (by kernel_rfl) Nd.l) (fun _ => rfl) .nil (fun _ => ⟨_, rfl⟩)) .nil) (fun _ => ⟨_, rfl⟩)) (fun _ => rfl))
  az))
  (ai (au O.ok.toKOk Nm.i (bE O.ok Nm.ak (ab Nm.a (by kernel_rfl) Nd.a) (fun _ => rfl)) (ab Nm.a (by kernel_rfl) Nd.a) (fun _ => rfl))
  (ai (aS bG)
  az))))))
theorem S.markupDeclarationOpenState (O : KAll w.params K) : SF prog w K 5 605 F.markupDeclarationOpenState :=
  db (d := 4) O.fmarkupDeclarationOpenState (by decide) (by decide +kernel) (fun _ _ _ _ _ _ _ vs h => by obtain ⟨v0, rfl⟩ := cB vs h; kernel_rfl)
    (fun h0 => absurd rfl h0) (fun h0 => absurd rfl h0)
    (fun _ => B.markupDeclarationOpenState O) (by kernel_rfl) (by kernel_rfl) (by kernel_rfl) (by decide +kernel)
noncomputable def FTs : Nat → Option TF := fun g => bif Nat.beq g 304 then some F.dataState else bif Nat.beq g 353 then some F.tagOpenState else bif Nat.beq g 360 then some F.closeTagOpenState else bif Nat.beq g 367 then some F.tagNameState else bif Nat.beq g 535 then some F.beforeAttributeNameState else bif Nat.beq g 591 then some F.selfClosingStartTagState else bif Nat.beq g 598 then some F.bogusCommentState else bif Nat.beq g 605 then some F.markupDeclarationOpenState else none
theorem rK (O : KAll w.params K) (d : Nat) (hd : 5 ≤ d) : ∀ g Tf, FTs g = some Tf → SF prog w K d g Tf ∧ fnIn K g = true := by
  intro g Tf h
  unfold FTs at h
  cases edataState : Nat.beq g 304 with
  | true => rw [edataState] at h; cases h; rw [Nat.eq_of_beq_eq_true edataState]; exact ⟨(S.dataState O).up (by lia), O.fi0 _ (by decide)⟩
  | false =>
  rw [edataState] at h
  cases etagOpenState : Nat.beq g 353 with
  | true => rw [etagOpenState] at h; cases h; rw [Nat.eq_of_beq_eq_true etagOpenState]; exact ⟨(S.tagOpenState O).up (by lia), O.fi0 _ (by decide)⟩
  | false =>
  rw [etagOpenState] at h
  cases ecloseTagOpenState : Nat.beq g 360 with
  | true => rw [ecloseTagOpenState] at h; cases h; rw [Nat.eq_of_beq_eq_true ecloseTagOpenState]; exact ⟨(S.closeTagOpenState O).up (by lia), O.fi0 _ (by decide)⟩
  | false =>
  rw [ecloseTagOpenState] at h
  cases etagNameState : Nat.beq g 367 with
  | true => rw [etagNameState] at h; cases h; rw [Nat.eq_of_beq_eq_true etagNameState]; exact ⟨(S.tagNameState O).up (by lia), O.fi0 _ (by decide)⟩
  | false =>
  rw [etagNameState] at h
  cases ebeforeAttributeNameState : Nat.beq g 535 with
  | true => rw [ebeforeAttributeNameState] at h; cases h; rw [Nat.eq_of_beq_eq_true ebeforeAttributeNameState]; exact ⟨(S.beforeAttributeNameState O).up (by lia), O.fi0 _ (by decide)⟩
  | false =>
  rw [ebeforeAttributeNameState] at h
  cases eselfClosingStartTagState : Nat.beq g 591 with
  | true => rw [eselfClosingStartTagState] at h; cases h; rw [Nat.eq_of_beq_eq_true eselfClosingStartTagState]; exact ⟨(S.selfClosingStartTagState O).up (by lia), O.fi0 _ (by decide)⟩
  | false =>
  rw [eselfClosingStartTagState] at h
  cases ebogusCommentState : Nat.beq g 598 with
  | true => rw [ebogusCommentState] at h; cases h; rw [Nat.eq_of_beq_eq_true ebogusCommentState]; exact ⟨(S.bogusCommentState O).up (by lia), O.fi0 _ (by decide)⟩
  | false =>
  rw [ebogusCommentState] at h
  cases emarkupDeclarationOpenState : Nat.beq g 605 with
  | true => rw [emarkupDeclarationOpenState] at h; cases h; rw [Nat.eq_of_beq_eq_true emarkupDeclarationOpenState]; exact ⟨(S.markupDeclarationOpenState O).up (by lia), O.fi0 _ (by decide)⟩
  | false =>
  rw [emarkupDeclarationOpenState] at h
  cases h
noncomputable def T.initHTMLTokenizer : TS :=
  (ae (ah N.e (hW 166 F.initHTMLUnicodeInputStream [(aa N.e)]) (aa N.a))
  (ae (ah N.E (aa N.E) (aa N.a))
  (ae (ah N.O (ad (.bool false)) (aa N.a))
  (ae (ah N.ab (cx []) (aa N.a))
  (ae (ah N.i (bg N.F (aa N.a)) (aa N.a))
  (ae (ah N.aQ (ad (.bool false)) (aa N.a))
  (ae (ah N.m (ad .none) (aa N.a))
  aj)))))))
noncomputable def F.initHTMLTokenizer : TF := cL (cM [N.a, N.e, N.E] [.none]) T.initHTMLTokenizer
theorem B.initHTMLTokenizer (O : KAll w.params K) : SS prog w K 5 q (aw fd.initHTMLTokenizer) f cd (fl q (aw fd.initHTMLTokenizer) f cd) (aL fd.initHTMLTokenizer) T.initHTMLTokenizer :=
  (ai (au O.ok.toKOk Nm.e (pu ((S.initHTMLUnicodeInputStream O).up (by decide)) (O.cm 166 98 (by decide)) (O.ci 166 98 (by decide)) (O.cf 166 98 (by decide)) (O.ce _ N.a4 Nm.a4 (by rfl)) (O.ck 166 98 (by decide)) (aH (by kernel_rfl) (by kernel_rfl)) Nd.a4 (fun _ => rfl) (.cons (ab Nm.e (by kernel_rfl) Nd.e) .nil) (fun _ => rfl)) (ab Nm.a (by kernel_rfl) Nd.a) (fun _ => rfl))
  (ai (au O.ok.toKOk Nm.E (ab Nm.E (by kernel_rfl) Nd.E) (ab Nm.a (by kernel_rfl) Nd.a) (fun _ => rfl))
  (ai (au O.ok.toKOk Nm.O bG (ab Nm.a (by kernel_rfl) Nd.a) (fun _ => rfl))
  (ai (au O.ok.toKOk Nm.ab (fE (fun _ => rfl) .nil) (ab Nm.a (by kernel_rfl) Nd.a) (fun _ => rfl))
  (ai (au O.ok.toKOk Nm.i (bE O.ok Nm.F (ab Nm.a (by kernel_rfl) Nd.a) (fun _ => rfl)) (ab Nm.a (by kernel_rfl) Nd.a) (fun _ => rfl))
  (ai (au O.ok.toKOk Nm.aQ bG (ab Nm.a (by kernel_rfl) Nd.a) (fun _ => rfl))
  (ai (au O.ok.toKOk Nm.m eV (ab Nm.a (by kernel_rfl) Nd.a) (fun _ => rfl))
  az)))))))
theorem S.initHTMLTokenizer (O : KAll w.params K) : SF prog w K 6 261 F.initHTMLTokenizer :=
  db (d := 5) O.finitHTMLTokenizer (by decide) (by decide +kernel) (fun h0 => absurd h0 (by simp))
    (fun _ ws _ _ _ _ _ _ _ vs h h3 => by obtain ⟨w0, rfl⟩ := cB ws h; obtain ⟨v0, v1, v2, rfl⟩ := qm vs h3; exact ⟨_, rfl, rfl⟩) (fun _ ws _ _ _ _ _ _ _ vs h h3 => by obtain ⟨w0, rfl⟩ := cB ws h; obtain ⟨v0, v1, rfl⟩ := d7 vs (by simpa using h3); exact ⟨_, rfl, rfl⟩)
    (fun _ => B.initHTMLTokenizer O) (by kernel_rfl) (by kernel_rfl) (by kernel_rfl) (by decide +kernel)
noncomputable def T.ulaw_call : TS :=
  (ae (aIf (aq tb .Eq (aa N.p) (ad (.str [109, 97, 114, 107, 117, 112]))) (ae (ay (aI N.aY 605 F.markupDeclarationOpenState (aa N.c) []))
  aj) aj)
  (ae (aIf (aq tb .Eq (aa N.p) (ad (.str [99, 108, 111, 115, 101]))) (ae (ay (aI N.ap 360 F.closeTagOpenState (aa N.c) []))
  aj) aj)
  (ae (aIf (aq tb .Eq (aa N.p) (ad (.str [98, 111, 103, 117, 115]))) (ae (ay (aI N.ak 598 F.bogusCommentState (aa N.c) []))
  aj) aj)
  (ae (aIf (aq tb .Eq (aa N.p) (ad (.str [97, 116, 116, 114, 105, 98, 117, 116, 101, 115]))) (ae (ay (aI N.aI 535 F.beforeAttributeNameState (aa N.c) []))
  aj) aj)
  (ae (aIf (aq tb .Eq (aa N.p) (ad (.str [115, 108, 97, 115, 104]))) (ae (ay (aI N.aN 591 F.selfClosingStartTagState (aa N.c) []))
  aj) aj)
  (ae (ay (aI N.F 304 F.dataState (aa N.c) []))
  aj))))))
noncomputable def F.ulaw_call : TF := cL (cM [N.c, N.p] []) T.ulaw_call
theorem B.ulaw_call (O : KAll w.params K) : SS prog w K 5 q (aw fd.ulaw_call) f cd (fl q (aw fd.ulaw_call) f cd) (aL fd.ulaw_call) T.ulaw_call :=
  (ai (sIf (aJ O.t (ab Nm.p (by kernel_rfl) Nd.p) (aC (by kernel_rfl)) (by with_unfolding_all rfl)) (ai (aS (bC O.ok.toKOk Nm.aY ((S.markupDeclarationOpenState O).up (by decide)) (ab Nm.c (by kernel_rfl) Nd.c) (fun _ => rfl) .nil (fun _ => ⟨_, rfl⟩)))
  az) az)
  (ai (sIf (aJ O.t (ab Nm.p (by kernel_rfl) Nd.p) (aC (by kernel_rfl)) (by with_unfolding_all rfl)) (ai (aS (bC O.ok.toKOk Nm.ap ((S.closeTagOpenState O).up (by decide)) (ab Nm.c (by kernel_rfl) Nd.c) (fun _ => rfl) .nil (fun _ => ⟨_, rfl⟩)))
  az) az)
  (ai (sIf (aJ O.t (ab Nm.p (by kernel_rfl) Nd.p) (aC (by kernel_rfl)) (by with_unfolding_all rfl)) (ai (aS (bC O.ok.toKOk Nm.ak ((S.bogusCommentState O).up (by decide)) (ab Nm.c (by kernel_rfl) Nd.c) (fun _ => rfl) .nil (fun _ => ⟨_, rfl⟩)))
  az) az)
  (ai (sIf (aJ O.t (ab Nm.p (by kernel_rfl) Nd.p) (aC (by kernel_rfl)) (by with_unfolding_all rfl)) (ai (aS (bC O.ok.toKOk Nm.aI ((S.beforeAttributeNameState O).up (by decide)) (ab Nm.c (by kernel_rfl) Nd.c) (fun _ => rfl) .nil (fun _ => ⟨_, rfl⟩)))
  az) az)
  (ai (sIf (aJ O.t (ab Nm.p (by kernel_rfl) Nd.p) (aC (by kernel_rfl)) (by with_unfolding_all rfl)) (ai (aS (bC O.ok.toKOk Nm.aN ((S.selfClosingStartTagState O).up (by decide)) (ab Nm.c (by kernel_rfl) Nd.c) (fun _ => rfl) .nil (fun _ => ⟨_, rfl⟩)))
  az) az)
  (ai (aS (bC O.ok.toKOk Nm.F ((S.dataState O).up (by decide)) (ab Nm.c (by kernel_rfl) Nd.c) (fun _ => rfl) .nil (fun _ => ⟨_, rfl⟩)))
  az))))))
theorem S.ulaw_call (O : KAll w.params K) : SF prog w K 6 827 F.ulaw_call :=
  db (d := 5) O.fulaw_call (by decide) (by decide +kernel) (fun _ _ _ _ _ _ _ vs h => by obtain ⟨v0, v1, rfl⟩ := d7 vs h; kernel_rfl)
    (fun h0 => absurd rfl h0) (fun h0 => absurd rfl h0)
    (fun _ => B.ulaw_call O) (by kernel_rfl) (by kernel_rfl) (by kernel_rfl) (by decide +kernel)
end
section
variable {prog : Program} {w : World} {K : Frag} {q : Str} {f : Addr} {cd : Value}
noncomputable def fd.law : Stmt := sAt top 34
noncomputable def T.law (a : Nat) (ns : List Int) : TS :=
  (ae (aR N.D (dw (ma a ns) (md a ns) (ad (.int 0))))
  (ae (aR N.A (aBM 1 d6 (ad (.str [])) [(dK tb (me a ns) N.aq (fun C j => (aB true)) (fun C j => (aU tb (ad (.glob (.ref 767))) (cA .Mod (cN C j N.aq) (ad (.int 32))))))]))
  (ae (aR N.o (aBM 1 d6 (ad (.str [10])) [(aBM 1 jH (aBM 1 d6 (ad (.str [10])) [(aBM 1 jH (aa N.A) [(ad (.str [13, 10]))])]) [(ad (.str [13]))])]))
  (ae (aR N.n (dw (bY tb (cA .Mod (aa N.D) (ad (.int 2)))) (aU tb (ad (.glob (.ref 48))) (ad (.str [69, 110, 100, 84, 97, 103]))) (aU tb (ad (.glob (.ref 48))) (ad (.str [83, 116, 97, 114, 116, 84, 97, 103])))))
  (ae (aR N.c (hW 762 F.initHTMLTokenizer [(aa N.A)]))
  (ae (ah N.g (cx []) (aa N.c))
  (ae (aR N.x (dw (bY tb (cA .Mod (aa N.D) (ad (.int 2)))) (aI N.ap 360 F.closeTagOpenState (aa N.c) []) (aI N.aO 353 F.tagOpenState (aa N.c) [])))
  (ae (aR N.B (dG (aa N.o) none (some (ad (.int 1)))))
  (ae (aR N.t (ad .none))
  (ae (aIf (du (aq tb .NotEq (aa N.B) (ad (.str []))) (du (aq tb .In (aa N.B) (ad (.str [97, 98, 99, 100, 101, 102, 103, 104, 105, 106, 107, 108, 109, 110, 111, 112, 113, 114, 115, 116, 117, 118, 119, 120, 121, 122, 65, 66, 67, 68, 69, 70, 71, 72, 73, 74, 75, 76, 77, 78, 79, 80, 81, 82, 83, 84, 85, 86, 87, 88, 89, 90]))) (aB true))) (ae (aR N.f (ad (.int 1)))
  (ae (dU (du (aq tb .Lt (aa N.f) (aW eT [(aa N.o)])) (du (aq tb .NotIn (aU tb (aa N.o) (aa N.f)) (ad (.str [32, 9, 10, 12, 47, 62]))) (aB true))) (ae (c8 N.f .Add (ad (.int 1)))
  aj))
  (ae (aIf (aOr (aq tb .IsNot (aa N.x) (ad (.bool true))) (aOr (bY tb (ak N.g (aa N.c))) (aOr (aq tb .NotEq (aW F.ulaw_token [(ak N.m (aa N.c))]) (bq [(aa N.n), (aa N.B), (ad (.int 0)), (ad (.str [110, 111])), (ad (.bool false))])) (aB false)))) (ae (ay (ad (.bool false)))
  aj) aj)
  (ae (l0 (aa N.f) (aY N.ad) (ae (aR N.x (dw (bY tb (aa N.ad)) (aI N.aF 367 F.tagNameState (aa N.c) []) (iQ N.i FTs (aa N.c) [])))
  (ae (aIf (aq tb .IsNot (aa N.x) (ad (.bool true))) (ae (ay (ad (.bool false)))
  aj) aj)
  aj)))
  (ae (aR N.k (gH [0] [65533] (dG (aa N.o) none (some (aa N.f)))))
  (ae (aR N.y (dK tb (dG (aa N.o) none (some (aa N.f))) N.s (fun C j => (aq tb .Eq (cN C j N.s) (ad (.str [0])))) (fun C j => (bq [(ad (.int 7)), (ad (.str [105, 110, 118, 97, 108, 105, 100, 45, 99, 111, 100, 101, 112, 111, 105, 110, 116]))]))))
  (ae (aR N.v (aW qS [(cA .Add (aa N.f) (ad (.int 1))), (aW eT [(aa N.o)])]))
  (ae (aR N.R (dG (aa N.o) (some (aa N.f)) (some (aa N.v))))
  (ae (aR N.t (bq [(aa N.n), (aa N.k), (ad (.int 0)), (ad (.str [110, 111])), (ad (.bool false))]))
  (ae (aR N.p (ad (.str [97, 116, 116, 114, 105, 98, 117, 116, 101, 115])))
  (ae (aIf (aq tb .Eq (aa N.R) (ad (.str []))) (ae (aK (aBM 2 bP (aa N.y) [(bq [(ad (.int 7)), (ad (.str [101, 111, 102, 45, 105, 110, 45, 116, 97, 103, 45, 110, 97, 109, 101]))])]))
  (ae (aR N.p (ad (.str [100, 97, 116, 97])))
  aj)) (ae (aIf (aq tb .Eq (aa N.R) (ad (.str [47]))) (ae (aR N.p (ad (.str [115, 108, 97, 115, 104])))
  aj) (ae (aIf (aq tb .Eq (aa N.R) (ad (.str [62]))) (ae (aR N.k (aBM 1 d6 (ad (.str [])) [(dK tb (aa N.k) N.s (fun C j => (aB true)) (fun C j => (dw (cD tb .LtE .LtE (ad (.str [65])) (cN C j N.s) (ad (.str [90]))) (aW nQ [(cA .Add (aW jF [(cN C j N.s)]) (ad (.int 32)))]) (cN C j N.s))))]))
  (ae (aR N.t (bq [(aa N.n), (aa N.k), (ad (.int 0)), (ad (.str [110, 111])), (dR tb .Eq (aa N.n) (aU tb (ad (.glob (.ref 48))) (ad (.str [83, 116, 97, 114, 116, 84, 97, 103]))))]))
  (ae (aK (aBM 2 bP (aa N.y) [(aa N.t)]))
  (ae (aR N.p (ad (.str [100, 97, 116, 97])))
  aj)))) aj)
  aj))
  aj))
  aj))))))))))) (ae (gu tb (dw (bY tb (cA .Mod (aa N.D) (ad (.int 2)))) (bq [(ad (.glob (.ref 784))), (ad (.glob (.ref 794)))]) (bq [(ad (.glob (.ref 768))), (ad (.glob (.ref 783)))])) [(aY N.Q), (aY N.aa)])
  (ae (gu tb (dw (aq tb .In (aa N.B) (aa N.Q)) (aU tb (aa N.Q) (aa N.B)) (aa N.aa)) [(aY N.y), (aY N.Y), (aY N.p)])
  (ae (aR N.v (dw (bY tb (aa N.Y)) (ad (.int 1)) (ad (.int 0))))
  aj))))
  (ae (aIf (aOr (aq tb .IsNot (aa N.x) (ad (.bool true))) (aOr (aq tb .NotEq (aW F.ulaw_queue [(aa N.c)]) (aa N.y)) (aOr (aq tb .NotEq (aI N.a0 126 F.position (ak N.e (aa N.c)) []) (aW F.ulaw_place [(aa N.o), (aa N.v)])) (aB false)))) (ae (ay (ad (.bool false)))
  aj) aj)
  (ae (aR N.q (hW 762 F.initHTMLTokenizer [(dG (aa N.o) (some (aa N.v)) none)]))
  (ae (ah N.g (cx []) (aa N.q))
  (ae (ah N.g (cx []) (aa N.c))
  (ae (aIf (aq tb .IsNot (aa N.t) (ad .none)) (ae (aIf (aq tb .NotEq (aW F.ulaw_token [(ak N.m (aa N.c))]) (aa N.t)) (ae (ay (ad (.bool false)))
  aj) aj)
  (ae (ah N.m (bh [N.h, N.k, N.b, N.K] [(aa N.n), (aU tb (aa N.t) (ad (.int 1))), (cx []), (ad (.bool false))]) (aa N.q))
  aj)) aj)
  (ae (aIf (aOr (aq tb .NotEq (iQ N.i FTs (aa N.c) []) (aW F.ulaw_call [(aa N.q), (aa N.p)])) (aOr (aq tb .NotEq (aW F.ulaw_queue [(aa N.c)]) (aW F.ulaw_queue [(aa N.q)])) (aB false))) (ae (ay (ad (.bool false)))
  aj) aj)
  (ae (aIf (aq tb .NotEq (dR tb .Is (ak N.m (aa N.c)) (ad .none)) (dR tb .Is (ak N.m (aa N.q)) (ad .none))) (ae (ay (ad (.bool false)))
  aj) aj)
  (ae (aIf (du (aq tb .NotEq (aa N.p) (ad (.str [100, 97, 116, 97]))) (du (aq tb .IsNot (ak N.m (aa N.q)) (ad .none)) (du (aq tb .NotEq (aW F.ulaw_token [(ak N.m (aa N.c))]) (aW F.ulaw_token [(ak N.m (aa N.q))])) (aB true)))) (ae (ay (ad (.bool false)))
  aj) aj)
  (ae (ay (dR tb .Eq (aI N.N 156 F.charsUntil (ak N.e (aa N.c)) [(bq [])]) (aI N.N 156 F.charsUntil (ak N.e (aa N.q)) [(bq [])])))
  aj)))))))))))))))))))
theorem B.law (O : KAll w.params K) {a : Nat} {ns : List Int} (hS : Scr K a ns) : SS prog w K 7 q (aw fd.law) f cd (fl q (aw fd.law) f cd) (aL fd.law) (T.law a ns) :=
  (ai (bD Nm.D (by kernel_rfl) (ig (rH hS Nm.I (by kernel_rfl) Nd.I (fun _ => rfl)) (rI hS Nm.I (by kernel_rfl) Nd.I) bw) (fun _ => rfl))
  (ai (bD Nm.A (by kernel_rfl) (sBM (by decide) PySem.F.slot_str_join PySem.F.type_str_join mM (aC (by kernel_rfl)) (fun _ => rfl) (.cons (lZ O.t Nm.aq (by decide +kernel) (by decide +kernel) (by kernel_rfl) (by decide +kernel) (by kernel_rfl) (rJ hS Nm.I (by kernel_rfl) Nd.I) (fun C j => gQ) (fun C j => (bV O.t (aN O Nm.ba (n := N.ba) (by rfl) (jb (by kernel_rfl) (by kernel_rfl)) Nd.ba) (ek (f6 Nm.aq (by kernel_rfl) (by kernel_rfl) Nd.aq) bw) (fun _ _ => rfl))) (fun _ _ => rfl)) .nil) (fun _ => ⟨_, rfl⟩)) (fun _ => rfl))
  (ai (bD Nm.o (by kernel_rfl) (sBM (by decide) PySem.F.slot_str_join PySem.F.type_str_join mM (aC (by kernel_rfl)) (fun _ => rfl) (.cons (sBM (by decide) PySem.F.slot_str_split PySem.F.type_str_split rE (sBM (by decide) PySem.F.slot_str_join PySem.F.type_str_join mM (aC (by kernel_rfl)) (fun _ => rfl) (.cons (sBM (by decide) PySem.F.slot_str_split PySem.F.type_str_split rE (ab Nm.A (by kernel_rfl) Nd.A) (fun _ => rfl) (.cons (aC (by kernel_rfl)) .nil) (fun _ => ⟨_, rfl⟩)) .nil) (fun _ => ⟨_, rfl⟩)) (fun _ => rfl) (.cons (aC (by kernel_rfl)) .nil) (fun _ => ⟨_, rfl⟩)) .nil) (fun _ => ⟨_, rfl⟩)) (fun _ => rfl))
  (ai (bD Nm.n (by kernel_rfl) (ig (eX (ek (ab Nm.D (by kernel_rfl) Nd.D) bw) (fun _ => rfl)) (bV O.t (aN O Nm.d (n := N.d) (by rfl) (aH (by kernel_rfl) (by kernel_rfl)) Nd.d) (aC (by kernel_rfl)) (fun _ _ => rfl)) (bV O.t (aN O Nm.d (n := N.d) (by rfl) (aH (by kernel_rfl) (by kernel_rfl)) Nd.d) (aC (by kernel_rfl)) (fun _ _ => rfl))) (fun _ => rfl))
  (ai (bD Nm.c (by kernel_rfl) (pu ((S.initHTMLTokenizer O).up (by decide)) (O.cm 762 261 (by decide)) (O.ci 762 261 (by decide)) (O.cf 762 261 (by decide)) (O.ce _ N.aG Nm.aG (by rfl)) (O.ck 762 261 (by decide)) (aH (by kernel_rfl) (by kernel_rfl)) Nd.aG (fun _ => rfl) (.cons (ab Nm.A (by kernel_rfl) Nd.A) .nil) (fun _ => rfl)) (fun _ => rfl))
  (ai (au O.ok.toKOk Nm.g (fE (fun _ => rfl) .nil) (ab Nm.c (by kernel_rfl) Nd.c) (fun _ => rfl))
  (ai (bD Nm.x (by kernel_rfl) (ig (eX (ek (ab Nm.D (by kernel_rfl) Nd.D) bw) (fun _ => rfl)) (bC O.ok.toKOk Nm.ap ((S.closeTagOpenState O).up (by decide)) (ab Nm.c (by kernel_rfl) Nd.c) (fun _ => rfl) .nil (fun _ => ⟨_, rfl⟩)) (bC O.ok.toKOk Nm.aO ((S.tagOpenState O).up (by decide)) (ab Nm.c (by kernel_rfl) Nd.c) (fun _ => rfl) .nil (fun _ => ⟨_, rfl⟩))) (fun _ => rfl))
  (ai (bD Nm.B (by kernel_rfl) (iT (ab Nm.o (by kernel_rfl) Nd.o) ik (d5 bw)) (fun _ => rfl))
  (ai (bD Nm.t (by kernel_rfl) eV (fun _ => rfl))
  (ai (sIf (SBw.toB (fT (aJ O.t (ab Nm.B (by kernel_rfl) Nd.B) (aC (by kernel_rfl)) (by with_unfolding_all rfl)) (fT (aJ O.t (ab Nm.B (by kernel_rfl) Nd.B) (aN O Nm.a6 (n := N.a6) (by rfl) (aH (by kernel_rfl) (by kernel_rfl)) Nd.a6) (by with_unfolding_all rfl)) lQ))) (ai (bD Nm.f (by kernel_rfl) bw (fun _ => rfl))
  (ai (jJ (SBw.toB (fT (aJ O.t (ab Nm.f (by kernel_rfl) Nd.f) (sBC kn (.inl ⟨_, rfl⟩) (O.bu _ N.H Nm.H (by decide)) rfl (by decide) (aH (by kernel_rfl) (by kernel_rfl)) Nd.H (fun _ => rfl) (.cons (ab Nm.o (by kernel_rfl) Nd.o) .nil) (fun _ => rfl)) (by with_unfolding_all rfl)) (fT (aJ O.t (bV O.t (ab Nm.o (by kernel_rfl) Nd.o) (ab Nm.f (by kernel_rfl) Nd.f) (fun _ _ => rfl)) (aC (by kernel_rfl)) (by with_unfolding_all rfl)) lQ))) (ai (fU Nm.f (by kernel_rfl) bw)
  az))
  (ai (sIf (SBw.toB (gG (aJ O.t (ab Nm.x (by kernel_rfl) Nd.x) bG (by with_unfolding_all rfl)) (gG (eX (aD O.ok.toKOk Nm.g (ab Nm.c (by kernel_rfl) Nd.c) (fun _ => rfl)) (fun _ => rfl)) (gG (aJ O.t (d3 ((S.ulaw_token O).up (by decide)) (O.de _ N.M Nm.M (by rfl)) (O.dk N.M (by rfl)) (aH (by kernel_rfl) (by kernel_rfl)) Nd.M (fun _ => rfl) (.cons (aD O.ok.toKOk Nm.m (ab Nm.c (by kernel_rfl) Nd.c) (fun _ => rfl)) .nil) (fun _ => rfl)) (dy (fun _ => rfl) (.cons (ab Nm.n (by kernel_rfl) Nd.n) (.cons (ab Nm.B (by kernel_rfl) Nd.B) (.cons bw (.cons (aC (by kernel_rfl)) (.cons bG .nil)))))) (by with_unfolding_all rfl)) nI)))) (ai (aS bG)
  az) az)
  (ai (rG (O.bu _ N.bi Nm.bi (by decide)) rfl (by decide) (aH (by kernel_rfl) (by kernel_rfl)) Nd.bi (fun _ => rfl) (ab Nm.f (by kernel_rfl) Nd.f) (fun _ => rfl) (c9 Nm.ad (by kernel_rfl)) (ai (bD Nm.x (by kernel_rfl) (ig (eX (ab Nm.ad (by kernel_rfl) Nd.ad) (fun _ => rfl)) (bC O.ok.toKOk Nm.aF ((S.tagNameState O).up (by decide)) (ab Nm.c (by kernel_rfl) Nd.c) (fun _ => rfl) .nil (fun _ => ⟨_, rfl⟩)) (qL O.ok.toKOk Nm.i (rK O _ (by decide)) (ab Nm.c (by kernel_rfl) Nd.c) (fun _ => rfl) .nil (fun _ => ⟨_, rfl⟩))) (fun _ => rfl))
  (ai (sIf (aJ O.t (ab Nm.x (by kernel_rfl) Nd.x) bG (by with_unfolding_all rfl)) (ai (aS bG)
  az) az)
  az)) (fun _ _ => rfl) (fun _ _ => rfl))
  (ai (bD Nm.k (by kernel_rfl) (pG rfl PySem.F.slot_str_replace PySem.F.type_str_replace (by kernel_rfl) (by kernel_rfl) (iT (ab Nm.o (by kernel_rfl) Nd.o) ik (d5 (ab Nm.f (by kernel_rfl) Nd.f))) (fun _ => rfl) (fun _ => ⟨_, rfl⟩)) (fun _ => rfl))
  (ai (nX O.t Nm.y (by kernel_rfl) Nm.s (by decide +kernel) (by decide +kernel) (by kernel_rfl) (by decide +kernel) (by kernel_rfl) (iT (ab Nm.o (by kernel_rfl) Nd.o) ik (d5 (ab Nm.f (by kernel_rfl) Nd.f))) (fun C j => pK (aJ O.t (f6 Nm.s (by kernel_rfl) (by kernel_rfl) Nd.s) (aC (by kernel_rfl)) (by with_unfolding_all rfl))) (fun C j => (dy (fun _ => rfl) (.cons bw (.cons (aC (by kernel_rfl)) .nil)))) (fun _ _ => rfl) (fun _ => rfl))
  (ai (bD Nm.v (by kernel_rfl) (sBC sG (.inl ⟨_, rfl⟩) (O.bu _ N.bg Nm.bg (by decide)) rfl (by decide) (aH (by kernel_rfl) (by kernel_rfl)) Nd.bg (fun _ => rfl) (.cons (ek (ab Nm.f (by kernel_rfl) Nd.f) bw) (.cons (sBC kn (.inl ⟨_, rfl⟩) (O.bu _ N.H Nm.H (by decide)) rfl (by decide) (aH (by kernel_rfl) (by kernel_rfl)) Nd.H (fun _ => rfl) (.cons (ab Nm.o (by kernel_rfl) Nd.o) .nil) (fun _ => rfl)) .nil)) (fun _ => rfl)) (fun _ => rfl))
  (ai (bD Nm.R (by kernel_rfl) (iT (ab Nm.o (by kernel_rfl) Nd.o) (d5 (ab Nm.f (by kernel_rfl) Nd.f)) (d5 (ab Nm.v (by kernel_rfl) Nd.v))) (fun _ => rfl))
  (ai (bD Nm.t (by kernel_rfl) (dy (fun _ => rfl) (.cons (ab Nm.n (by kernel_rfl) Nd.n) (.cons (ab Nm.k (by kernel_rfl) Nd.k) (.cons bw (.cons (aC (by kernel_rfl)) (.cons bG .nil)))))) (fun _ => rfl))
  (ai (bD Nm.p (by kernel_rfl) (aC (by kernel_rfl)) (fun _ => rfl))
  (ai (sIf (aJ O.t (ab Nm.R (by kernel_rfl) Nd.R) (aC (by kernel_rfl)) (by with_unfolding_all rfl)) (ai (bj (sBM (by decide) PySem.F.slot_list_append PySem.F.type_list_append cG (ab Nm.y (by kernel_rfl) Nd.y) (fun _ => rfl) (.cons (dy (fun _ => rfl) (.cons bw (.cons (aC (by kernel_rfl)) .nil))) .nil) (fun _ => ⟨_, rfl⟩)) (fun _ => rfl))
  (ai (bD Nm.p (by kernel_rfl) (aC (by kernel_rfl)) (fun _ => rfl))
  az)) (ai (sIf (aJ O.t (ab Nm.R (by kernel_rfl) Nd.R) (aC (by kernel_rfl)) (by with_unfolding_all rfl)) (ai (bD Nm.p (by kernel_rfl) (aC (by kernel_rfl)) (fun _ => rfl))
  az) (ai (sIf (aJ O.t (ab Nm.R (by kernel_rfl) Nd.R) (aC (by kernel_rfl)) (by with_unfolding_all rfl)) (ai (bD Nm.k (by kernel_rfl) (sBM (by decide) PySem.F.slot_str_join PySem.F.type_str_join mM (aC (by kernel_rfl)) (fun _ => rfl) (.cons (lZ O.t Nm.s (by decide +kernel) (by decide +kernel) (by kernel_rfl) (by decide +kernel) (by kernel_rfl) (ab Nm.k (by kernel_rfl) Nd.k) (fun C j => gQ) (fun C j => (ig (jv O.t (aC (by kernel_rfl)) (f6 Nm.s (by kernel_rfl) (by kernel_rfl) Nd.s) (aC (by kernel_rfl)) (by with_unfolding_all rfl)) (sBC rB (.inl ⟨_, rfl⟩) (O.bu _ N.aK Nm.aK (by decide)) rfl (by decide) (jb (by kernel_rfl) (by kernel_rfl)) Nd.aK (fun _ => rfl) (.cons (ek (sBC pE (.inl ⟨_, rfl⟩) (O.bu _ N.af Nm.af (by decide)) rfl (by decide) (jb (by kernel_rfl) (by kernel_rfl)) Nd.af (fun _ => rfl) (.cons (f6 Nm.s (by kernel_rfl) (by kernel_rfl) Nd.s) .nil) (fun _ => rfl)) bw) .nil) (fun _ => rfl)) (f6 Nm.s (by kernel_rfl) (by kernel_rfl) Nd.s))) (fun _ _ => rfl)) .nil) (fun _ => ⟨_, rfl⟩)) (fun _ => rfl))
  (ai (bD Nm.t (by kernel_rfl) (dy (fun _ => rfl) (.cons (ab Nm.n (by kernel_rfl) Nd.n) (.cons (ab Nm.k (by kernel_rfl) Nd.k) (.cons bw (.cons (aC (by kernel_rfl)) (.cons (ll O.t (ab Nm.n (by kernel_rfl) Nd.n) (bV O.t (aN O Nm.d (n := N.d) (by rfl) (aH (by kernel_rfl) (by kernel_rfl)) Nd.d) (aC (by kernel_rfl)) (fun _ _ => rfl)) (by with_unfolding_all rfl)) .nil)))))) (fun _ => rfl))
  (ai (bj (sBM (by decide) PySem.F.slot_list_append PySem.F.type_list_append cG (ab Nm.y (by kernel_rfl) Nd.y) (fun _ => rfl) (.cons (ab Nm.t (by kernel_rfl) Nd.t) .nil) (fun _ => ⟨_, rfl⟩)) (fun _ => rfl))
  (ai (bD Nm.p (by kernel_rfl) (aC (by kernel_rfl)) (fun _ => rfl))
  az)))) az)
  az))
  az))
  az))))))))))) (ai (pI O.t (ig (eX (ek (ab Nm.D (by kernel_rfl) Nd.D) bw) (fun _ => rfl)) (dy (fun _ => rfl) (.cons (aN O Nm.bb (n := N.bb) (by rfl) (aH (by kernel_rfl) (by kernel_rfl)) Nd.bb) (.cons (aN O Nm.a7 (n := N.a7) (by rfl) (aH (by kernel_rfl) (by kernel_rfl)) Nd.a7) .nil))) (dy (fun _ => rfl) (.cons (aN O Nm.a8 (n := N.a8) (by rfl) (aH (by kernel_rfl) (by kernel_rfl)) Nd.a8) (.cons (aN O Nm.a9 (n := N.a9) (by rfl) (aH (by kernel_rfl) (by kernel_rfl)) Nd.a9) .nil)))) (.cons (c9 Nm.Q (by kernel_rfl)) (fun _ _ => rfl) (.cons (c9 Nm.aa (by kernel_rfl)) (fun _ _ => rfl) .nil)) (fun _ => rfl) (fun _ => rfl))
  (ai (pI O.t (ig (aJ O.t (ab Nm.B (by kernel_rfl) Nd.B) (ab Nm.Q (by kernel_rfl) Nd.Q) (by with_unfolding_all rfl)) (bV O.t (ab Nm.Q (by kernel_rfl) Nd.Q) (ab Nm.B (by kernel_rfl) Nd.B) (fun _ _ => rfl)) (ab Nm.aa (by kernel_rfl) Nd.aa)) (.cons (c9 Nm.y (by kernel_rfl)) (fun _ _ => rfl) (.cons (c9 Nm.Y (by kernel_rfl)) (fun _ _ => rfl) (.cons (c9 Nm.p (by kernel_rfl)) (fun _ _ => rfl) .nil))) (fun _ => rfl) (fun _ => rfl))
  (ai (bD Nm.v (by kernel_rfl) (ig (eX (ab Nm.Y (by kernel_rfl) Nd.Y) (fun _ => rfl)) bw bw) (fun _ => rfl))
  az))))
  (ai (sIf (SBw.toB (gG (aJ O.t (ab Nm.x (by kernel_rfl) Nd.x) bG (by with_unfolding_all rfl)) (gG (aJ O.t (d3 ((S.ulaw_queue O).up (by decide)) (O.de _ N.ac Nm.ac (by rfl)) (O.dk N.ac (by rfl)) (aH (by kernel_rfl) (by kernel_rfl)) Nd.ac (fun _ => rfl) (.cons (ab Nm.c (by kernel_rfl) Nd.c) .nil) (fun _ => rfl)) (ab Nm.y (by kernel_rfl) Nd.y) (by with_unfolding_all rfl)) (gG (aJ O.t (bC O.ok.toKOk Nm.a0 ((S.position O).up (by decide)) (aD O.ok.toKOk Nm.e (ab Nm.c (by kernel_rfl) Nd.c) (fun _ => rfl)) (fun _ => rfl) .nil (fun _ => ⟨_, rfl⟩)) (d3 ((S.ulaw_place O).up (by decide)) (O.de _ N.aV Nm.aV (by rfl)) (O.dk N.aV (by rfl)) (aH (by kernel_rfl) (by kernel_rfl)) Nd.aV (fun _ => rfl) (.cons (ab Nm.o (by kernel_rfl) Nd.o) (.cons (ab Nm.v (by kernel_rfl) Nd.v) .nil)) (fun _ => rfl)) (by with_unfolding_all rfl)) nI)))) (ai (aS bG)
  az) az)
  (ai (bD Nm.q (by kernel_rfl) (pu ((S.initHTMLTokenizer O).up (by decide)) (O.cm 762 261 (by decide)) (O.ci 762 261 (by decide)) (O.cf 762 261 (by decide)) (O.ce _ N.aG Nm.aG (by rfl)) (O.ck 762 261 (by decide)) (aH (by kernel_rfl) (by kernel_rfl)) Nd.aG (fun _ => rfl) (.cons (iT (ab Nm.o (by kernel_rfl) Nd.o) (d5 (ab Nm.v (by kernel_rfl) Nd.v)) ik) .nil) (fun _ => rfl)) (fun _ => rfl))
  (ai (au O.ok.toKOk Nm.g (fE (fun _ => rfl) .nil) (ab Nm.q (by kernel_rfl) Nd.q) (fun _ => rfl))
  (ai (au O.ok.toKOk Nm.g (fE (fun _ => rfl) .nil) (ab Nm.c (by kernel_rfl) Nd.c) (fun _ => rfl))
  (ai (sIf (aJ O.t (ab Nm.t (by kernel_rfl) Nd.t) eV (by with_unfolding_all rfl)) (ai (sIf (aJ O.t (d3 ((S.ulaw_token O).up (by decide)) (O.de _ N.M Nm.M (by rfl)) (O.dk N.M (by rfl)) (aH (by kernel_rfl) (by kernel_rfl)) Nd.M (fun _ => rfl) (.cons (aD O.ok.toKOk Nm.m (ab Nm.c (by kernel_rfl) Nd.c) (fun _ => rfl)) .nil) (fun _ => rfl)) (ab Nm.t (by kernel_rfl) Nd.t) (by with_unfolding_all rfl)) (ai (aS bG)
  az) az)
  (ai (au O.ok.toKOk Nm.m (bZ (by kernel_rfl) rfl (List.cons_ne_nil _ _) (Nat.le_of_ble_eq_true rfl) (.cons (ab Nm.n (by kernel_rfl) Nd.n) (.cons (bV O.t (ab Nm.t (by kernel_rfl) Nd.t) bw (fun _ _ => rfl)) (.cons (fE (fun _ => rfl) .nil) (.cons bG .nil))))) (ab Nm.q (by kernel_rfl) Nd.q) (fun _ => rfl))
  az)) az)
  (ai (sIf (SBw.toB (gG (aJ O.t (qL O.ok.toKOk Nm.i (rK O _ (by decide)) (ab Nm.c (by kernel_rfl) Nd.c) (fun _ => rfl) .nil (fun _ => ⟨_, rfl⟩)) (d3 ((S.ulaw_call O).up (by decide)) (O.de _ N.aT Nm.aT (by rfl)) (O.dk N.aT (by rfl)) (aH (by kernel_rfl) (by kernel_rfl)) Nd.aT (fun _ => rfl) (.cons (ab Nm.q (by kernel_rfl) Nd.q) (.cons (ab Nm.p (by kernel_rfl) Nd.p) .nil)) (fun _ => rfl)) (by with_unfolding_all rfl)) (gG (aJ O.t (d3 ((S.ulaw_queue O).up (by decide)) (O.de _ N.ac Nm.ac (by rfl)) (O.dk N.ac (by rfl)) (aH (by kernel_rfl) (by kernel_rfl)) Nd.ac (fun _ => rfl) (.cons (ab Nm.c (by kernel_rfl) Nd.c) .nil) (fun _ => rfl)) (d3 ((S.ulaw_queue O).up (by decide)) (O.de _ N.ac Nm.ac (by rfl)) (O.dk N.ac (by rfl)) (aH (by kernel_rfl) (by kernel_rfl)) Nd.ac (fun _ => rfl) (.cons (ab Nm.q (by kernel_rfl) Nd.q) .nil) (fun _ => rfl)) (by with_unfolding_all rfl)) nI))) (ai (aS bG)
  az) az)
  (ai (sIf (aJ O.t (ll O.t (aD O.ok.toKOk Nm.m (ab Nm.c (by kernel_rfl) Nd.c) (fun _ => rfl)) eV (by with_unfolding_all rfl)) (ll O.t (aD O.ok.toKOk Nm.m (ab Nm.q (by kernel_rfl) Nd.q) (fun _ => rfl)) eV (by with_unfolding_all rfl)) (by with_unfolding_all rfl)) (ai (aS bG)
  az) az)
  (ai (sIf (SBw.toB (fT (aJ O.t (ab Nm.p (by kernel_rfl) Nd.p) (aC (by kernel_rfl)) (by with_unfolding_all rfl)) (fT (aJ O.t (aD O.ok.toKOk Nm.m (ab Nm.q (by kernel_rfl) Nd.q) (fun _ => rfl)) eV (by with_unfolding_all rfl)) (fT (aJ O.t (d3 ((S.ulaw_token O).up (by decide)) (O.de _ N.M Nm.M (by rfl)) (O.dk N.M (by rfl)) (aH (by kernel_rfl) (by kernel_rfl)) Nd.M (fun _ => rfl) (.cons (aD O.ok.toKOk Nm.m (ab Nm.c (by kernel_rfl) Nd.c) (fun _ => rfl)) .nil) (fun _ => rfl)) (d3 ((S.ulaw_token O).up (by decide)) (O.de _ N.M Nm.M (by rfl)) (O.dk N.M (by rfl)) (aH (by kernel_rfl) (by kernel_rfl)) Nd.M (fun _ => rfl) (.cons (aD O.ok.toKOk Nm.m (ab Nm.q (by kernel_rfl) Nd.q) (fun _ => rfl)) .nil) (fun _ => rfl)) (by with_unfolding_all rfl)) lQ)))) (ai (aS bG)
  az) az)
  (ai (aS (ll O.t (bC O.ok.toKOk Nm.N ((S.charsUntil O).up (by decide)) (aD O.ok.toKOk Nm.e (ab Nm.c (by kernel_rfl) Nd.c) (fun _ => rfl)) (fun _ => rfl) (.cons (dy (fun _ => rfl) .nil) .nil) (fun _ => ⟨_, rfl⟩)) (bC O.ok.toKOk Nm.N ((S.charsUntil O).up (by decide)) (aD O.ok.toKOk Nm.e (ab Nm.q (by kernel_rfl) Nd.q) (fun _ => rfl)) (fun _ => rfl) (.cons (dy (fun _ => rfl) .nil) .nil) (fun _ => ⟨_, rfl⟩)) (by with_unfolding_all rfl)))
  az)))))))))))))))))))
end
end Mine
end
section
open PySem PySem.W
namespace Mine
theorem aE (n : Nat) (a : AV) (r : List (Nat × AV)) : ag n ((n, a) :: r) = some a := by unfold ag; simp
theorem aZ {n p : Nat} (h : p ≠ n) (a : AV) (r : List (Nat × AV)) : ag n ((p, a) :: r) = ag n r := by
  show (bif Nat.beq p n then _ else _) = _
  rw [hG (fun e => h e.symm)]; rfl
theorem fh (n : Nat) (a v : AV) (r : List (Nat × AV)) : put n v ((n, a) :: r) = (n, v) :: r := by unfold put; simp
theorem ba {n p : Nat} (h : p ≠ n) (a v : AV) (r : List (Nat × AV)) : put n v ((p, a) :: r) = (p, a) :: put n v r := by
  show (bif Nat.beq p n then _ else _) = _
  rw [hG (fun e => h e.symm)]; rfl
theorem bx (n : Nat) (v : AV) : put n v [] = [(n, v)] := rfl
theorem rL (n : Nat) : ag n [] = none := rfl
theorem dp {n i C : Nat} {os : List AO} {fs : List (Nat × AV)} (hi : os[i]? = some (.inst C fs)) (hf : cv C n = true) : cP n os (.obj i) = match ag n fs with | some a => bif cu a then some a else none | none => none := by
  unfold cP; dsimp only; rw [hi]; dsimp only; rw [hf]; rfl
theorem cI {n i C : Nat} {os : List AO} {fs : List (Nat × AV)} (v : AV) (hi : os[i]? = some (.inst C fs)) (hf : cv C n = true) (hl : Nat.ble fs.length 100 = true) : eM n v os (.obj i) = some (os.set i (.inst C (put n v fs))) := by
  unfold eM; dsimp only; rw [hi]; dsimp only; rw [hf, hl]; rfl
theorem dM {n i C g : Nat} {os : List AO} {fs : List (Nat × AV)} (hi : os[i]? = some (.inst C fs)) (hn : ag n fs = none) (hm : cw C n cr = some g) : eW n os (.obj i) = some g := by
  unfold eW; dsimp only; rw [hi]; dsimp only; rw [hn]; exact hm
noncomputable def Keep (os os' : List AO) (L : List Nat) : Prop := os.length ≤ os'.length ∧ ∀ j, j < os.length → j ∉ L → os'[j]? = os[j]?
theorem Keep.refl (os : List AO) (L : List Nat) : Keep os os L := ⟨Nat.le_refl _, fun _ _ _ => rfl⟩
theorem Keep.trans {a b c : List AO} {L : List Nat} (h : Keep a b L) (h' : Keep b c L) : Keep a c L := ⟨Nat.le_trans h.1 h'.1, fun j hj hn => (h'.2 j (Nat.lt_of_lt_of_le hj h.1) hn).trans (h.2 j hj hn)⟩
theorem Keep.set {a b : List AO} {L : List Nat} {i : Nat} {X : AO} (h : Keep a b L) (hi : i ∈ L) : Keep a (b.set i X) L := ⟨by rw [List.length_set]; exact h.1, fun j hj hn => by have hne : i ≠ j := fun e => hn (e ▸ hi); rw [List.getElem?_set_ne hne]; exact h.2 j hj hn⟩
theorem Keep.app {a b : List AO} {L : List Nat} {X : List AO} (h : Keep a b L) : Keep a (b ++ X) L := ⟨by rw [List.length_append]; exact Nat.le_trans h.1 (Nat.le_add_right _ _), fun j hj hn => by rw [List.getElem?_append_left (Nat.lt_of_lt_of_le hj h.1)]; exact h.2 j hj hn⟩
theorem Keep.sub {a b : List AO} {L M : List Nat} (h : Keep a b L) (hs : ∀ j ∈ L, j ∈ M) : Keep a b M := ⟨h.1, fun j hj hn => h.2 j hj (fun e => hn (hs j e))⟩
theorem Keep.at {a b : List AO} {L : List Nat} {j : Nat} {X : AO} (h : Keep a b L) (hj : a[j]? = some X) (hn : j ∉ L) : b[j]? = some X := (h.2 j (List.getElem?_eq_some_iff.mp hj).1 hn).trans hj
theorem ax {a : List AO} {j : Nat} {X : AO} (h : a[j]? = some X) : j < a.length := (List.getElem?_eq_some_iff.mp h).1
theorem n6 {a : List AO} {j : Nat} {X Y : AO} (h : a[j]? = some X) : (a.set j Y)[j]? = some Y := List.getElem?_set_self (ax h)
theorem gv {a : List AO} {i j : Nat} {X Y : AO} (h : a[j]? = some X) (hn : i ≠ j) : (a.set i Y)[j]? = some X := by rw [List.getElem?_set_ne hn]; exact h
theorem aT {a r : List AO} {j : Nat} {X : AO} (h : a[j]? = some X) : (a ++ r)[j]? = some X := by rw [List.getElem?_append_left (ax h)]; exact h
noncomputable def Ev {β : Type} (E : St → (β → St → Prop) → Prop) (st : St) (b : β) (st' : St) : Prop := ∀ K : β → St → Prop, K b st' → E st K
section
variable {st st1 st2 st3 : St} {loc : List (Nat × AV)} {os os' : List AO} {E F G : TE} {B D : TB} {a b c r : AV} {U V : TS} {n x i C g : Nat} {op : Operator} {co co' : CmpOp} {fs : List (Nat × AV)} {Ts : List TE} {as : List AV} {Tf : TF} {k : AF → St → Prop} {K : AV → St → Prop} {fl : AF} {p q : Bool}
theorem Ev.run {β : Type} {E : St → (β → St → Prop) → Prop} {b : β} {k : β → St → Prop} (h : Ev E st b st1) (hk : k b st1) : E st k := h k hk
theorem aA : Ev (ad a) st a st := fun _ h => h
theorem af (h : ag x st.loc = some a) : Ev (aa x) st a st := fun K hK => by
  show match ag x st.loc with | some a => K a st | none => False
  rw [h]; exact hK
theorem aV (h : Ev E st (.obj i) st1) (hi : st1.objs[i]? = some (.inst C fs)) (hf : cv C n = true) (hl : ag n fs = some a) (hh : cu a = true) : Ev (ak n E) st a st1 := by
  have e : cP n st1.objs (.obj i) = some a := by rw [dp hi hf, hl]; show (bif cu a then some a else none) = some a; rw [hh]; rfl
  intro K hK; refine h _ ?_; rw [e]; exact hK
theorem ey (h1 : Ev E st a st1) (h2 : Ev F st1 b st2) (hs : cQ tb st2.objs a b = some r) : Ev (aU tb E F) st r st2 := by intro K hK; refine h1 _ (h2 _ ?_); rw [hs]; exact hK
theorem dC (h1 : Ev E st a st1) (h2 : Ev F st1 b st2) (hs : iS op a b = some r) : Ev (cA op E F) st r st2 := by intro K hK; refine h1 _ (h2 _ ?_); rw [hs]; exact hK
theorem qX (h1 : Ev E st a st1) (h2 : Ev F st1 b st2) (hs : bz tb st2.objs co a b = some p) : Ev (dR tb co E F) st (.bool p) st2 := by intro K hK; refine h1 _ (h2 _ ?_); rw [hs]; exact hK
theorem be (h1 : Ev E st a st1) (h2 : Ev F st1 b st2) (hs : bz tb st2.objs co a b = some p) : Ev (aq tb co E F) st p st2 := by intro K hK; refine h1 _ (h2 _ ?_); rw [hs]; exact hK
theorem qY (h1 : Ev E st a st1) (hs : dI n st1.objs a = some r) : Ev (dB n E) st r st1 := by intro K hK; refine h1 _ ?_; rw [hs]; exact hK
theorem gw (hi : os[i]? = some (.dict fs)) (hf : free fs = true) (hl : ag n fs = some r) : dI n os (.obj i) = some r := by
  unfold dI; dsimp only; rw [hi]; dsimp only; rw [hf]; exact hl
theorem dc (h1 : Ev E st (.obj i) st1) (hi : st1.objs[i]? = some (.dict fs)) (hf : free fs = true) (hl : ag n fs = some r) : Ev (dB n E) st r st1 := qY h1 (gw hi hf hl)
theorem eA (h1 : Ev E st a st1) (hs : eS tb st1.objs a = some p) : Ev (bY tb E) st p st1 := by intro K hK; refine h1 _ ?_; rw [hs]; exact hK
theorem n7 (h : Ev B st p st1) : Ev (jw B) st (!p) st1 := fun _ hK => h _ hK
theorem sL (h : Ev B st p st1) : Ev (ju B) st (.bool p) st1 := fun _ hK => h _ hK
theorem n8 : Ev (aB p) st p st := fun _ h => h
theorem jL (h : Ev B st true st1) : Ev (aOr B D) st true st1 := fun _ hK => h _ hK
theorem eB (h : Ev B st false st1) (h2 : Ev D st1 p st2) : Ev (aOr B D) st p st2 := fun _ hK => h _ (h2 _ hK)
theorem kx (h : Ev B st true st1) (h2 : Ev D st1 p st2) : Ev (du B D) st p st2 := fun _ hK => h _ (h2 _ hK)
theorem f7 (h : Ev B st false st1) : Ev (du B D) st false st1 := fun _ hK => h _ hK
theorem n9 {β : Type} {X Y : St → (β → St → Prop) → Prop} {v : β} (h : Ev B st true st1) (h2 : Ev X st1 v st2) : Ev (dw B X Y) st v st2 := fun _ hK => h _ (h2 _ hK)
theorem ky {β : Type} {X Y : St → (β → St → Prop) → Prop} {v : β} (h : Ev B st false st1) (h2 : Ev Y st1 v st2) : Ev (dw B X Y) st v st2 := fun _ hK => h _ (h2 _ hK)
theorem ip {z : Int} (h : Ev E st (.int z) st1) : Ev (dE E) st (.int (-z)) st1 := fun _ hK => h _ hK
theorem fi : Ev (lm none) st .none st := fun _ h => h
theorem cV (h : Ev E st a st1) : Ev (lm (some E)) st a st1 := h
theorem eE {Tl Th : Option TE} (h1 : Ev E st a st1) (h2 : Ev (lm Tl) st1 b st2) (h3 : Ev (lm Th) st2 c st3) (hs : SlI a b c r) : Ev (dG E Tl Th) st r st3 := fun _ hK => h1 _ (h2 _ (h3 _ ⟨_, hs, hK⟩))
theorem dz : Ev (aX []) st [] st := fun _ h => h
theorem bI (h : Ev E st a st1) (h2 : Ev (aX Ts) st1 as st2) : Ev (aX (E :: Ts)) st (a :: as) st2 := fun _ hK => h _ (h2 _ hK)
theorem bi (h : Ev E st a st1) : Ev (aX [E]) st [a] st1 := fun _ hK => h _ hK
theorem f8 {P : Prop} {p : Bool} (h : p = true) (hP : P) : bif p then P else False := by rw [h]; exact hP
theorem dW (h : Ev (aX Ts) st as st1) (hb : Nat.ble as.length 1000 = true) : Ev (bq Ts) st (.obj st1.objs.length) ⟨st1.loc, st1.objs ++ [.tup as]⟩ := fun _ hK => h _ (f8 hb hK)
theorem lw (h : Ev (aX Ts) st as st1) (hb : Nat.ble as.length 1000 = true) : Ev (cx Ts) st (.obj st1.objs.length) ⟨st1.loc, st1.objs ++ [.list as]⟩ := fun _ hK => h _ (f8 hb hK)
theorem f9 (h : Ev (aX Ts) st as st1) (hk : Tf as st1.objs fun v os => K v ⟨st1.loc, os⟩) : aW Tf Ts st K := h _ hk
theorem df (h : Ev (aX Ts) st as st1) (hf : ∀ K : AV → List AO → Prop, K a os' → Tf as st1.objs K) : Ev (aW Tf Ts) st a ⟨st1.loc, os'⟩ := fun K hK => h _ (hf (fun v os => K v ⟨st1.loc, os⟩) hK)
theorem kz (h1 : Ev E st a st1) (hn : f0 st1.objs a = n) (h : Ev (aX Ts) st1 as st2) (hk : Tf (a :: as) st2.objs fun v os => K v ⟨st2.loc, os⟩) : aBM n Tf E Ts st K :=
  h1 _ (f8 (by rw [hn]; exact Nat.beq_refl n) (h _ hk))
theorem oe (h1 : Ev E st a st1) (hn : f0 st1.objs a = n) (h : Ev (aX Ts) st1 as st2) (hf : ∀ K : AV → List AO → Prop, K b os' → Tf (a :: as) st2.objs K) : Ev (aBM n Tf E Ts) st b ⟨st2.loc, os'⟩ := fun K hK => kz h1 hn h (hf (fun v os => K v ⟨st2.loc, os⟩) hK)
theorem mf (h1 : Ev E st a st1) (hn : f0 st1.objs a = n) (h : F st1 fun b st2 => Tf [a, b] st2.objs fun v os => K v ⟨st2.loc, os⟩) : aBM n Tf E [F] st K := h1 _ (f8 (by rw [hn]; exact Nat.beq_refl n) h)
theorem lx {c : Nat} {K : AV → List AO → Prop} (h : K (.int c) os) : jF [.str [c]] os K := ⟨c, rfl, h⟩
theorem gR {j : Nat} {Cl : Addr} {vars : List (Nat × AV)} (h : st.objs[j]? = some (.nsp Cl vars)) (hl : ag n vars = some a) : Ev (cN Cl j n) st a st := fun K hK => by
  show (match st.objs[j]? with | some (.nsp C' vars) => C' = Cl ∧ (match ag n vars with | some a => K a st | none => False) | _ => False)
  rw [h]; dsimp only; rw [hl]; exact ⟨rfl, hK⟩
theorem fJ (h1 : Ev E st a st1) (h2 : Ev F st1 b st2) (hs : bz tb st2.objs co a b = some true) (h3 : Ev G st2 c st3) (ht : bz tb st3.objs co' b c = some p) : Ev (cD tb co co' E F G) st p st3 := by
  intro K hK; refine h1 _ (h2 _ ?_); rw [hs]; refine h3 _ ?_; rw [ht]; exact hK
theorem iq (h1 : Ev E st a st1) (h2 : Ev F st1 b st2) (hs : bz tb st2.objs co a b = some false) : Ev (cD tb co co' E F G) st false st2 := by
  intro K hK; refine h1 _ (h2 _ ?_); rw [hs]; exact hK
theorem fj (h1 : Ev E st (.obj i) st1) (hi : st1.objs[i]? = some (.inst C fs)) (hn : ag n fs = none) (hm : cw C n cr = some g) (h : Ev (aX Ts) st1 as st2) (hk : Tf (.obj i :: as) st2.objs fun v os => K v ⟨st2.loc, os⟩) : aI n g Tf E Ts st K :=
  by refine h1 _ ?_; rw [dM hi hn hm]; exact f8 (Nat.beq_refl g) (h _ hk)
theorem sM (h : Ev U st .next st1) (h2 : Ev V st1 fl st2) : Ev (ae U V) st fl st2 := fun _ hK => h _ (h2 _ hK)
theorem sO : Ev aj st .next st := fun _ h => h
theorem sP : Ev (hJ fl) st fl st := fun _ h => h
theorem bR (h : Ev E st a st1) : Ev (aR n E) st .next ⟨put n a st1.loc, st1.objs⟩ := fun _ hK => h _ hK
theorem sr (h : Ev E st a st1) : Ev (aK E) st .next st1 := fun _ hK => h _ hK
theorem rp (h : Ev E st a st1) : Ev (ay E) st (.ret a) st1 := fun _ hK => h _ hK
theorem cy (h1 : Ev E st a st1) (h2 : Ev F st1 (.obj i) st2) (hi : st2.objs[i]? = some (.inst C fs)) (hf : cv C n = true) (hl : Nat.ble fs.length 100 = true) : Ev (ah n E F) st .next ⟨st2.loc, st2.objs.set i (.inst C (put n a fs))⟩ := by
  intro K hK; refine h1 _ (h2 _ ?_); rw [cI a hi hf hl]; exact hK
theorem sQ (h : Ev B st true st1) (h2 : Ev U st1 fl st2) : Ev (aIf B U V) st fl st2 := fun _ hK => h _ (h2 _ hK)
theorem sR (h : Ev B st false st1) (h2 : Ev V st1 fl st2) : Ev (aIf B U V) st fl st2 := fun _ hK => h _ (h2 _ hK)
theorem jM (h1 : ag n st.loc = some a) (h2 : Ev E st b st1) (hs : gt op a b = some r) : Ev (c8 n op E) st .next ⟨put n r st1.loc, st1.objs⟩ := by intro K hK; refine af h1 _ (h2 _ ?_); rw [hs]; exact hK
theorem aO (h : Ev U st .next st1) (hk : V st1 k) : ae U V st k := h _ hk
theorem tn {W : TS} (h : Ev B st p st1) (hk : bif p then ae U W st1 k else ae V W st1 k) : ae (aIf B U V) W st k := h _ (by cases p <;> exact hk)
theorem cS {W : TS} (h : Ev B st true st1) (hk : ae U W st1 k) : ae (aIf B U V) W st k := h _ hk
theorem cX {W : TS} (h : Ev B st false st1) (hk : ae V W st1 k) : ae (aIf B U V) W st k := h _ hk
theorem ar (hk : V st k) : ae aj V st k := hk
theorem a7 (A B U : TS) : ae (ae A B) U = ae A (ae B U) := by
  funext st k
  show A st _ = A st _
  congr 1
  funext fl st'
  cases fl <;> rfl
theorem bA {W : TS} (hk : ae U (ae V W) st k) : ae (ae U V) W st k := by rw [a7]; exact hk
theorem eQ (h : Ev E st a st1) (hk : k (.ret a) st1) : ae (ay E) V st k := h _ hk
theorem rM {n : Nat} (h : E st fun a st' => V ⟨put n a st'.loc, st'.objs⟩ k) : ae (aR n E) V st k := h
theorem jN {os2 : List AO} (h1 : Ev E st (.obj i) st1) (hi : st1.objs[i]? = some (.inst C fs)) (hf : cv C n = true) (hl : ag n fs = some a) (hh : cu a = true) (h2 : Ev F st1 b ⟨loc, os2⟩) (hs : gt op a b = some r) (hi2 : os2[i]? = some (.inst C fs)) (hb : Nat.ble fs.length 100 = true) :
    Ev (d4 n op E F) st .next ⟨loc, os2.set i (.inst C (put n r fs))⟩ := by
  have e : cP n st1.objs (.obj i) = some a := by rw [dp hi hf, hl]; show (bif cu a then some a else none) = some a; rw [hh]; rfl
  intro K hK; refine h1 _ ?_; rw [e]; refine h2 _ ?_; rw [hs]; dsimp only; rw [cI r hi2 hf hb]; exact hK
theorem og (h1 : Ev E st (.obj i) ⟨loc, os.set i (.inst C fs)⟩) (hi : i < os.length) (hf : cv C n = true) (hl : ag n fs = some a) (hh : cu a = true) (h2 : Ev F ⟨loc, os.set i (.inst C fs)⟩ b ⟨loc, os.set i (.inst C fs)⟩) (hs : gt op a b = some r) (hb : Nat.ble fs.length 100 = true) :
    Ev (d4 n op E F) st .next ⟨loc, os.set i (.inst C (put n r fs))⟩ := by
  have h := jN h1 (List.getElem?_set_self hi) hf hl hh h2 hs (List.getElem?_set_self hi) hb
  rwa [List.set_set] at h
theorem mS (h : Ev B st true st1) : Ev (jy B) st .next st1 := fun _ hK => h _ ⟨rfl, hK⟩
theorem qn {Us : List (AV → TS)} {l : List AV} (h : bt tb st.objs a = some (true, l)) (hl : Nat.beq l.length Us.length = true) (hk : dT Us l st k) : gu tb (ad a) Us st k := by
  show (match bt tb st.objs a with | some (true, l) => bif Nat.beq l.length Us.length then dT Us l st k else False | _ => False)
  rw [h]; exact f8 hl hk
theorem ly {j a b : Nat} (h1 : j ≠ a) (h2 : j ≠ b) : j ∉ [a, b] := fun h => (List.mem_cons.mp h).elim h1 fun h => h2 (List.mem_singleton.mp h)
theorem sS {j a b c : Nat} (h1 : j ≠ a) (h2 : j ≠ b) (h3 : j ≠ c) : j ∉ [a, b, c] := fun h => (List.mem_cons.mp h).elim h1 fun h => ly h2 h3 h
theorem oh {O : Nat → Prop} {a b : Nat} (h1 : O a) (h2 : O b) : ∀ j ∈ [a, b], O j := fun j h => (List.mem_cons.mp h).elim (fun e => e ▸ h1) fun h => List.mem_singleton.mp h ▸ h2
theorem sT {O : Nat → Prop} {a b c : Nat} (h1 : O a) (h2 : O b) (h3 : O c) : ∀ j ∈ [a, b, c], O j := fun j h => (List.mem_cons.mp h).elim (fun e => e ▸ h1) fun h => oh h2 h3 j h
theorem gI {W : TS} (h : B st fun b st' => bif b then ae U W st' k else ae V W st' k) : ae (aIf B U V) W st k := by
  have e : (fun (b : Bool) st' => bif b then ae U W st' k else ae V W st' k) = fun b st' => bif b then U st' (fun fl st'' => match fl with | .next => W st'' k | fl => k fl st'') else V st' (fun fl st'' => match fl with | .next => W st'' k | fl => k fl st'') := rfl
  rw [e] at h
  exact h
theorem oi {K : Bool → St → Prop} (h : E st fun a st' => bY tb (ad a) st' K) : bY tb E st K := h
theorem qo {K : Bool → St → Prop} (h : B st fun b st' => K (!b) st') : jw B st K := h
theorem qp {K : Bool → St → Prop} (h : Ev B st true st1) (hk : D st1 K) : du B D st K := h _ hk
theorem mh {K : AF → St → Prop} (h : U ⟨put n a st.loc, st.objs⟩ K) : aY n a st (fun _ st1 => U st1 K) := h
theorem mi {y : List Nat} {W : AV → TS} (h : Ev E st (.str y) st1) (hk : ∃ m, dD tb st1.objs.length W U m ⟨st1.loc, st1.objs ++ [.iter 0 (.str y) 0]⟩ fun fl st' => match fl with | .next => V st' k | fl => k fl st') : ae (mN tb E W U) V st k := h _ hk
theorem ir {l : List AV} (h1 : Ev E st (.obj i) st1) (h2 : Ev F st1 a ⟨loc, os⟩) (h0 : st1.objs[i]? = some (.list l)) (hi : os[i]? = some (.list l)) (hl : l.length ≤ 100000) : Ev (aK (aBM 2 bP E [F])) st .next ⟨loc, os.set i (.list (l ++ [a]))⟩ := fun K hK =>
  kz (K := fun _ st' => K .next st') h1 (by show (match st1.objs[i]? with | some (.list _) => 2 | _ => 0) = 2; rw [h0]) (bi h2) ⟨_, _, _, rfl, hi, hl, hK⟩
theorem mj {i C : Nat} (hi : os[i]? = some (.inst C fs)) (hf : cv C n = true) (hl : ag n fs = some a) (hh : cu a = true) : cP n os (.obj i) = some a := by
  rw [dp hi hf, hl]; show (bif cu a then some a else none) = some a; rw [hh]; rfl
theorem oj {FT : Nat → Option TF} {j : Nat} {self self2 : AV} (h1 : Ev E st a st1) (hd : cP n st1.objs a = some (.obj j)) (hj : st1.objs[j]? = some (.meth g self)) (hF : FT g = some Tf) (h : Ev (aX Ts) st1 as st2) (hs : st2.objs[j]? = some (.meth g self2)) (hk : Tf (self2 :: as) st2.objs fun v os => K v ⟨st2.loc, os⟩) : iQ n FT E Ts st K :=
  h1 _ ⟨j, g, self, Tf, hd, hj, hF, h _ ⟨self2, hs, hk⟩⟩
theorem ol {y z w : List Nat} (h : Ev E st (.str w) st1) (h1 : w.length ≤ 100000) (h2 : (Nat.ble z.length 100 && !decide (y = z)) = true) : Ev (gH y z E) st (.str (rep w y z)) st1 := fun _ hK => h _ (f8 (by rw [Bool.and_assoc, Nat.ble_eq_true_of_le h1, h2]; rfl) hK)
theorem len_str {w : List Nat} {K : AV → List AO → Prop} (h : w.length ≤ 1000000) (hK : K (.int w.length) os) : eT [.str w] os K := ⟨_, _, rfl, .str w h, hK⟩
theorem jO {w : List Nat} (h : Ev E st (.str w) st1) (h1 : w.length ≤ 1000000) : Ev (aW eT [E]) st (.int w.length) st1 := fun K hK => f9 (bi h) (len_str (K := fun v os => K v ⟨st1.loc, os⟩) h1 hK)
theorem jP {z y : Int} {t : List Nat} (h : Ev E st (.int z) st) (q : cQ tb st.objs (.glob (.ref 48)) (.str t) = some (.int y)) (e : decide (z = y) = p) : Ev (aq tb .Eq E (aU tb (ad (.glob (.ref 48))) (ad (.str t)))) st p st :=
  be h (ey aA aA q) (congrArg some e)
theorem qZ (h : E st fun b st1 => ae (dJ n (ad b) F) V st1 k) : ae (dJ n E F) V st k := h
theorem om {W : TS} (h : E st fun _ st' => W st' k) : ae (aK E) W st k := h
theorem q0 {z : Int} (h : Ev E st (.obj i) st1) (hi : st1.objs[i]? = some (.inst C fs)) (hn : ag n fs = none) : Ev (fQ C n z E) st (.int z) st1 := by
  intro K hK; refine h _ ?_; dsimp only; rw [hi]; dsimp only; rw [hn]; exact f8 (Nat.beq_refl C) hK
theorem iu (h1 : Ev E st a st1) (h2 : Ev F st1 (.obj i) ⟨loc, os.set i (.inst C fs)⟩) (hi : i < os.length) (hf : cv C n = true) (hl : Nat.ble fs.length 100 = true) : Ev (ah n E F) st .next ⟨loc, os.set i (.inst C (put n a fs))⟩ := by
  have h := cy h1 h2 (List.getElem?_set_self hi) hf hl
  dsimp only at h
  rwa [List.set_set] at h
theorem on (h : Ev E st (.obj i) st1) (hi : st1.objs[i]? = some (.inst C fs)) (hf : cv C n = true) (hl : Nat.ble fs.length 100 = true) : Ev (ew n E a) st .next ⟨st1.loc, st1.objs.set i (.inst C (put n a fs))⟩ := by
  intro K hK; refine h _ ?_; rw [cI a hi hf hl]; exact hK
theorem pN (h : Ev E st (.obj i) ⟨loc, os.set i (.inst C fs)⟩) (hi : i < os.length) (hf : cv C n = true) (hl : Nat.ble fs.length 100 = true) : Ev (ew n E a) st .next ⟨loc, os.set i (.inst C (put n a fs))⟩ := by
  have h := on (a := a) h (List.getElem?_set_self hi) hf hl
  dsimp only at h
  rwa [List.set_set] at h
theorem oo : Ev (aY n a) st .next ⟨put n a st.loc, st.objs⟩ := fun _ h => h
theorem jQ {W : AV → TS} {Ws : List (AV → TS)} (h : Ev (W a) st .next st1) (hk : dT Ws as st1 k) : dT (W :: Ws) (a :: as) st k := h _ hk
theorem oq (hk : k .next st) : dT [] [] st k := hk
theorem qr {Us : List (AV → TS)} (h : E st fun a st' => gu tb (ad a) Us st' fun fl st'' => match fl with | .next => V st'' k | fl => k fl st'') : ae (gu tb E Us) V st k := h
theorem cF {l : List AV} (h : os[i]? = some (.tup l)) : bt tb os (.obj i) = some (true, l) := by
  show (match os[i]? with | some (.list vs) => some (false, vs) | some (.tup vs) => some (true, vs) | _ => none) = _
  rw [h]
theorem cT {l : List AV} (h : os[i]? = some (.list l)) : bt tb os (.obj i) = some (false, l) := by
  show (match os[i]? with | some (.list vs) => some (false, vs) | some (.tup vs) => some (true, vs) | _ => none) = _
  rw [h]
theorem pO {y : List Nat} (h : y.length ≤ 1000000) : eS tb os (.str y) = some (!y.isEmpty) := by
  show (bif Nat.ble y.length 1000000 then some (!y.isEmpty) else none) = _
  rw [Nat.ble_eq_true_of_le h]; rfl
theorem pP {y z : List Nat} (h : y.length + z.length ≤ 1000000) : gt .Add (.str y) (.str z) = some (.str (y ++ z)) := by
  show (bif Nat.ble (y.length + z.length) 1000000 then some (AV.str (y ++ z)) else none) = _
  rw [Nat.ble_eq_true_of_le h]; rfl
theorem ml {y z : List Nat} (h : y.length + z.length ≤ 1000000) : iS .Add (.str y) (.str z) = some (.str (y ++ z)) := by
  show (bif Nat.ble (y.length + z.length) 1000000 then some (AV.str (y ++ z)) else none) = _
  rw [Nat.ble_eq_true_of_le h]; rfl
theorem mn {l : List AV} {K : AV → List AO → Prop} (h : os[i]? = some (.list l)) (hb : l.length ≤ 1000000) (hK : K (.int l.length) os) : eT [.obj i] os K := ⟨_, _, rfl, .list i l h hb, hK⟩
theorem jf {K : AV → List AO → Prop} (h : os[i]? = some (.dict [])) (hK : K (.int 0) os) : eT [.obj i] os K := ⟨_, _, rfl, .dict i [] h (Nat.zero_le _) rfl, hK⟩
theorem jg {l : List AV} (h : os[i]? = some (.list l)) : eP tb os (.obj i) = some 1 := by
  show (match bt tb os (.obj i) with | some (false, _) => some 1 | some (true, _) => some 2 | none => none) = _
  rw [cT h]
theorem qs {l : List AV} {m : Nat} (h : os[i]? = some (.list l)) (hm : m ≤ l.length) : cg tb os 1 (.obj i) m = some l[m]? := by
  show (match bt tb os (.obj i) with | some (false, l) => (match l[m]? with | some a => some (some a) | none => bif Nat.beq m l.length then some none else none) | _ => none) = _
  rw [cT h]; dsimp only
  cases e : l[m]? with
  | some a => rfl
  | none =>
    obtain rfl : m = l.length := Nat.le_antisymm hm (List.getElem?_eq_none_iff.mp e)
    dsimp only; rw [Nat.beq_refl]; rfl
theorem d8 {v : AV} (hi : os[i]? = some (.dict fs)) (hf : free fs = true) (hb : Nat.ble fs.length 100 = true) : cR n v os (.obj i) = some (os.set i (.dict (put n v fs))) := by
  show (match os[i]? with | some (.dict fs) => bif free fs && Nat.ble fs.length 100 then some (os.set i (.dict (put n v fs))) else none | _ => none) = _
  rw [hi]; dsimp only; rw [hf, hb]; rfl
theorem pQ {os2 : List AO} (h1 : Ev E st (.obj i) st1) (hi : st1.objs[i]? = some (.dict fs)) (hf : free fs = true) (hl : ag n fs = some a) (h2 : Ev F st1 b ⟨loc, os2⟩) (hs : gt op a b = some r) (hi2 : os2[i]? = some (.dict fs)) (hb : Nat.ble fs.length 100 = true) :
    Ev (fY n op E F) st .next ⟨loc, os2.set i (.dict (put n r fs))⟩ := by
  intro K hK; refine h1 _ ?_; rw [gw hi hf hl]; refine h2 _ ?_; rw [hs]; dsimp only; rw [d8 hi2 hf hb]; exact hK
theorem jR (h1 : Ev E st a st1) (h2 : Ev F st1 (.obj i) st2) (hi : st2.objs[i]? = some (.dict fs)) (hf : free fs = true) (hb : Nat.ble fs.length 100 = true) : Ev (dJ n E F) st .next ⟨st2.loc, st2.objs.set i (.dict (put n a fs))⟩ := by
  intro K hK; refine h1 _ (h2 _ ?_); rw [d8 hi hf hb]; exact hK
theorem mo {l : List AV} {z : Int} {j : Nat} (hs : bt tb os (.obj g) = some (p, l)) (hb : l.length ≤ 1000000) (hi : idx z l.length = some j) (hj : l[j]? = some r) : cQ tb os (.obj g) (.int z) = some r := by
  show (match bt tb os (.obj g) with | some (_, l) => bif Nat.ble l.length 1000000 then (match idx z l.length with | some j => l[j]? | none => none) else none | none => none) = _
  rw [hs]; dsimp only; rw [Nat.ble_eq_true_of_le hb, hi]; exact hj
theorem lk0 {l : List (Nat × AV)} : ag n (put n a l) = some a := am _ _ _
theorem lk {m : Nat} {l : List (Nat × AV)} (hne : Nat.beq m n = false) (h : ag n l = some a) : ag n (put m b l) = some a :=
  (cH b (fun e => by rw [e, Nat.beq_refl] at hne; cases hne) l).trans h
theorem gb {y : List Nat} {z : Int} {j : Nat} {c : Nat} (h1 : Nat.ble y.length 1000000 = true) (h2 : idx z y.length = some j) (h3 : y[j]? = some c) : cQ tb os (.str y) (.int z) = some (.str [c]) := by
  show (bif Nat.ble y.length 1000000 then _ else _) = _
  rw [h1]
  show (match idx z y.length with | some j => (match y[j]? with | some c => some (AV.str [c]) | none => none) | none => none) = _
  rw [h2]; dsimp only; rw [h3]
theorem eF {y : List Nat} {u v : Option Int} (h : Nat.ble y.length 1000000 = true) : SlI (.str y) (match u with | some i => .int i | none => .none) (match v with | some i => .int i | none => .none) (.str (sl u v y)) := by
  refine .mk y _ _ u v ?_ ?_ (Nat.le_of_ble_eq_true h)
  · cases u <;> constructor
  · cases v <;> constructor
theorem lq {m : Nat} {l : List (Nat × AV)} (hne : Nat.beq m n = false) (h : ag n l = some a) : ag n (put m b l) = some a := lk hne h
theorem sq1 {a b : TS} (h : ae a b st k) : ae (ae a aj) b st k := bA h
theorem sq2 {a b c : TS} (h : ae a (ae b c) st k) : ae (ae a (ae b aj)) c st k := by rw [a7, a7]; exact h
theorem sq3 {a b c d : TS} (h : ae a (ae b (ae c d)) st k) : ae (ae a (ae b (ae c aj))) d st k := by rw [a7, a7, a7]; exact h
theorem sq4 {a b c d e : TS} (h : ae a (ae b (ae c (ae d e))) st k) : ae (ae a (ae b (ae c (ae d aj)))) e st k := by rw [a7, a7, a7, a7]; exact h
theorem sq5 {a b c d e f : TS} (h : ae a (ae b (ae c (ae d (ae e f)))) st k) : ae (ae a (ae b (ae c (ae d (ae e aj))))) f st k := by rw [a7, a7, a7, a7, a7]; exact h
end
noncomputable abbrev Sfs (m nl ds er b : AV) (c : List Nat) (sz off pl pc : Int) : List (Nat × AV) := [(N.C, m), (N.P, nl), (N.V, ds), (N.z, .str c), (N.w, .int sz), (N.r, .int off), (N.ax, er), (N.as, .int pl), (N.ar, .int pc), (N.U, b)]
theorem f1 : cv 166 N.z = true := by kernel_rfl
theorem f2 : cv 166 N.as = true := by kernel_rfl
theorem f3 : cv 166 N.ar = true := by kernel_rfl
theorem ot {os : List AO} {s : Nat} {m nl ds er b : AV} {c : List Nat} {sz off pl pc o : Int} {k : AV → List AO → Prop} (hi : os[s]? = some (.inst 166 (Sfs m nl ds er b c sz off pl pc))) (h0 : 0 ≤ o) (h1 : o ≤ c.length)
    (h : k (.obj os.length) (os ++ [.tup [.int (pl + cnt c [10] o.toNat), .int (if rfi c [10] o.toNat = -1 then pc + o else o - (rfi c [10] o.toNat + 1))]])) : F.uposition [.obj s, .int o] os k := by
  show match cM [N.a, N.Z] [] [.obj s, .int o] with | none => False | some loc => _
  show T.uposition ⟨[(N.a, .obj s), (N.Z, .int o)], os⟩ _
  refine aO (bR (aV (af rfl) hi f1 rfl rfl)) ?_
  refine aO (bR (oe (os' := os) (b := .int (cnt c [10] o.toNat)) (af lk0) rfl (bI aA (bI aA (bi (af rfl)))) fun K hK => ⟨_, _, _, rfl, h0, h1, hK⟩)) ?_
  refine aO (bR (dC (aV (af rfl) hi f2 rfl rfl) (af lk0) rfl)) ?_
  refine aO (bR (oe (os' := os) (b := .int (rfi c [10] o.toNat)) (af rfl) rfl (bI aA (bI aA (bi (af rfl)))) fun K hK => ⟨_, _, _, rfl, h0, h1, hK⟩)) ?_
  by_cases hr : rfi c [10] o.toNat = -1
  · rw [if_pos hr] at h
    refine cS (be (af lk0) (ip aA) (congrArg some (decide_eq_true hr))) ?_
    refine aO (bR (dC (aV (af rfl) hi f3 rfl rfl) (af rfl) rfl)) ?_
    exact eQ (dW (bI (af rfl) (bi (af rfl))) rfl) h
  · rw [if_neg hr] at h
    refine cX (be (af lk0) (ip aA) (congrArg some (decide_eq_false hr))) ?_
    refine aO (bR (dC (af rfl) (dC (af rfl) aA rfl) rfl)) ?_
    exact eQ (dW (bI (af rfl) (bi (af rfl))) rfl) h
theorem f4 : cv 73 N.A = true := by kernel_rfl
theorem f5 : cv 73 N.am = true := by kernel_rfl
noncomputable abbrev Xfs (X : List Nat) (p : Int) : List (Nat × AV) := [(N.A, .str X), (N.am, .int p)]
theorem mT {os : List AO} {x : Nat} {X : List Nat} {p n : Int} {k : AV → List AO → Prop} (hi : os[x]? = some (.inst 73 (Xfs X p))) (hX : X.length ≤ 1000000)
    (h : k (.str (sl (some p) (some (p + n)) X)) (os.set x (.inst 73 (Xfs X (p + (sl (some p) (some (p + n)) X).length))))) : F.read [.obj x, .int n] os k := by
  have hb : Nat.ble X.length 1000000 = true := Nat.ble_eq_true_of_le hX
  have hc : (sl (some p) (some (p + n)) X).length ≤ 1000000 := Nat.le_trans (List.length_take_le' _ _) (Nat.le_trans (by rw [List.length_drop]; exact Nat.sub_le _ _) hX)
  show T.read ⟨[(N.a, .obj x), (N.a3, .int n)], os⟩ _
  refine aO (bR (eE (aV (af rfl) hi f4 rfl rfl) (cV (aV (af rfl) hi f5 rfl rfl)) (cV (dC (aV (af rfl) hi f5 rfl rfl) (af rfl) rfl)) (eF (u := some p) (v := some (p + n)) hb))) ?_
  refine aO (jN (os2 := os) (af rfl) hi f5 rfl rfl (df (os' := os) (bi (af lk0)) fun K hK => len_str hc hK) rfl hi rfl) ?_
  exact eQ (af rfl) h
theorem g1 : cv 166 N.w = true := by kernel_rfl
theorem g2 : cv 166 N.r = true := by kernel_rfl
theorem g3 : cv 166 N.ax = true := by kernel_rfl
theorem g4 : cv 166 N.U = true := by kernel_rfl
theorem g5 : cv 166 N.V = true := by kernel_rfl
theorem g6 : cv 166 N.C = true := by kernel_rfl
theorem g7 : cv 166 N.P = true := by kernel_rfl
theorem pR {os : List AO} {s n C : Nat} {fs : List (Nat × AV)} (hs : s < os.length) (v : AV) (hf : cv C n = true) (hl : fs.length ≤ 100) : eM n v (os.set s (.inst C fs)) (.obj s) = some (os.set s (.inst C (put n v fs))) := by
  rw [cI v (List.getElem?_set_self hs) hf (Nat.ble_eq_true_of_le hl), List.set_set]
theorem th {os : List AO} {s n C : Nat} {fs : List (Nat × AV)} (hs : s < os.length) (hf : cv C n = true) : cP n (os.set s (.inst C fs)) (.obj s) = match ag n fs with | some a => bif cu a then some a else none | none => none := dp (List.getElem?_set_self hs) hf
theorem mq {os r : List AO} {s : Nat} {X : AO} (hs : s < os.length) : (os ++ r).set s X = os.set s X ++ r := by rw [List.set_append_left _ _ hs]
theorem to {os r : List AO} {s n C : Nat} {fs : List (Nat × AV)} (hs : s < os.length) (v : AV) (hf : cv C n = true) (hl : fs.length ≤ 100) : eM n v (os.set s (.inst C fs) ++ r) (.obj s) = some (os.set s (.inst C (put n v fs)) ++ r) := by
  rw [cI v (aT (List.getElem?_set_self hs)) hf (Nat.ble_eq_true_of_le hl), mq (by rw [List.length_set]; exact hs), List.set_set]
theorem lz {os : List AO} {s : Nat} {m nl ds : AV} {k : AV → List AO → Prop} (hi : os[s]? = some (.inst 166 [(N.C, m), (N.P, nl), (N.V, ds)]))
    (h : k .none (os.set s (.inst 166 (Sfs m nl ds (.obj os.length) .none [] 0 0 0 0)) ++ [.list []])) : F.reset [.obj s] os k := by
  have hs := ax hi
  have e : ∀ (os : List AO) (r : List AO) (fs fs' : List (Nat × AV)), s < os.length → (os.set s (.inst 166 fs) ++ r).set s (.inst 166 fs') = os.set s (.inst 166 fs') ++ r := fun os r fs fs' h => by
    rw [mq (by rw [List.length_set]; exact h), List.set_set]
  have g : ∀ (r : List AO) (fs : List (Nat × AV)), (os.set s (.inst 166 fs) ++ r)[s]? = some (.inst 166 fs) := fun r fs => aT (List.getElem?_set_self hs)
  have g0 : ∀ (fs : List (Nat × AV)), (os.set s (.inst 166 fs))[s]? = some (.inst 166 fs) := fun fs => List.getElem?_set_self hs
  show T.reset ⟨[(N.a, .obj s)], os⟩ _
  refine aO (cy aA (af rfl) hi f1 rfl) ?_
  refine aO (cy aA (af rfl) (g0 _) g1 rfl) ?_
  rw [List.set_set]
  refine aO (cy aA (af rfl) (g0 _) g2 rfl) ?_
  rw [List.set_set]
  refine aO (cy (lw dz rfl) (af rfl) (g _ _) g3 rfl) ?_
  rw [e _ _ _ _ hs, List.length_set]
  refine aO (cy aA (af rfl) (g _ _) f2 rfl) ?_
  rw [e _ _ _ _ hs]
  refine aO (cy aA (af rfl) (g _ _) f3 rfl) ?_
  rw [e _ _ _ _ hs]
  refine aO (cy aA (af rfl) (g _ _) g4 rfl) ?_
  rw [e _ _ _ _ hs]
  exact h
theorem iV {os : List AO} {x : Nat} {X : List Nat} {k : AV → List AO → Prop} (hi : os[x]? = some (.inst 73 []))
    (h : k .none (os.set x (.inst 73 (Xfs X 0)))) : F.initText [.obj x, .str X] os k := by
  have hs := ax hi
  show T.initText ⟨[(N.a, .obj x), (N.A, .str X)], os⟩ _
  simp (disch := first | decide | (simp only [List.length_cons, List.length_nil]; decide)) only [T.initText, ae, ah, ad, aa, aE, aZ, fh, ba, bx, cI _ hi f4 rfl, pR hs _ f5, aj]
  exact h
theorem q8 {os : List AO} {X : AO} : (os ++ [X])[os.length]? = some X := by simp
theorem mr {os : List AO} {X Y : AO} : (os ++ [X]).set os.length Y = os ++ [Y] := by
  rw [List.set_append_right _ _ (Nat.le_refl _)]; simp
theorem gJ {os : List AO} {s : Nat} {X : List Nat} {k : AV → List AO → Prop}
    (h : k (.obj os.length) (os ++ [.inst 73 (Xfs X 0)])) : F.openStream [.obj s, .str X] os k := by
  show T.openStream ⟨[(N.a, .obj s), (N.an, .str X)], os⟩ _
  simp (disch := decide) only [T.openStream, ae, aR, hW, aX, aa, aE, aZ]
  refine iV q8 ?_
  rw [mr]
  simp (disch := decide) only [ay, aa, aE, aZ, fh, ba, bx, aj]
  exact h
theorem m1 : cw 166 N.bc cr = some 148 := by kernel_rfl
theorem m2 : cw 166 N.bh cr = some 112 := by kernel_rfl
theorem m3 : cw 166 N.bk cr = some 105 := by kernel_rfl
theorem su (os a b : List AO) : (os ++ a) ++ b = os ++ (a ++ b) := List.append_assoc ..
end Mine
end
section
open PySem PySem.W
open PySem.Builtin PySem.Builtin.Str PySem.StrLaws
namespace Mine
noncomputable def fnd (y : List Nat) : List Nat → Nat → List Nat
  | [], _ => []
  | c :: r, i => if y.isPrefixOf (c :: r) then i :: fnd y r (i + 1) else fnd y r (i + 1)
theorem iw (y : List Nat) : ∀ (s : List Nat) (a : Nat), ∀ i ∈ fnd y s a, a ≤ i
  | [], _, _, h => by cases h
  | c :: r, a, i, h => by
    unfold fnd at h
    split at h
    · rcases List.mem_cons.mp h with rfl | h
      · exact Nat.le_refl _
      · exact Nat.le_of_succ_le (iw y r (a + 1) i h)
    · exact Nat.le_of_succ_le (iw y r (a + 1) i h)
noncomputable def ix (y x : List Nat) : Prop := ∀ i j, y.isPrefixOf (x.drop i) = true → y.isPrefixOf (x.drop j) = true → i < j → i + y.length ≤ j
theorem mU (x y : List Nat) (i : Nat) (hy : y ≠ []) : (i + y.length ≤ x.length ∧ subAt (txt x) (txt y) i = true) ↔ y.isPrefixOf (x.drop i) = true := by
  rw [subAt_eq]
  show (i + y.length ≤ x.length ∧ ((x.drop i).take (txt y).length == y) = true) ↔ _
  rw [a9, beq_iff_eq, List.isPrefixOf_iff_prefix, List.prefix_iff_eq_take]
  constructor
  · rintro ⟨_, h⟩; exact h.symm
  · intro h
    refine ⟨?_, h.symm⟩
    have := congrArg List.length h
    rw [List.length_take, List.length_drop] at this
    have : 0 < y.length := List.length_pos_iff.mpr hy
    lia
theorem gS (X Y : Str) (hi : Nat) (x y : List Nat) (hY : Y.length = y.length) (hy : y ≠ []) (hap : ix y x) (hP : ∀ i, (i + Y.length ≤ hi ∧ subAt X Y i = true) ↔ y.isPrefixOf (x.drop i) = true) (hx : x.length = hi) : ∀ (n i : Nat) (st : Array Nat × Nat) (lim : Nat), i + n = x.length → st.1.size + n + 1 ≤ lim →
    (∀ j, i ≤ j → y.isPrefixOf (x.drop j) = true → st.2 ≤ j) →
    (forIn (List.range' i (n + 1)) st (occBody X Y hi lim)).run.fst.toList = st.1.toList ++ fnd y (x.drop i) i
  | 0, i, st, lim, hn, hl, hf => by
    have e : x.drop i = [] := List.drop_eq_nil_of_le (by lia)
    rw [e]
    rw [show List.range' i (0 + 1) = [i] from rfl, List.forIn_cons]
    unfold occBody
    rw [if_neg]
    · simp [fnd]
    · rintro ⟨⟨_, h1⟩, h2⟩
      have := (hP i).mp ⟨h1, h2⟩
      rw [e] at this
      cases y with
      | nil => exact hy rfl
      | cons _ _ => cases this
  | n + 1, i, st, lim, hn, hl, hf => by
    have hi' : i < x.length := by lia
    have e : x.drop i = x[i] :: x.drop (i + 1) := List.drop_eq_getElem_cons hi'
    rw [List.range'_succ, List.forIn_cons]
    unfold occBody
    rw [e]
    unfold fnd
    rw [← e]
    by_cases hp : y.isPrefixOf (x.drop i) = true
    · obtain ⟨h1, h2⟩ := (hP i).mpr hp
      rw [if_pos ⟨⟨⟨by lia, hf i (Nat.le_refl _) hp⟩, h1⟩, h2⟩, if_pos hp]
      have ih := gS X Y hi x y hY hy hap hP hx n (i + 1) (st.1.push i, i + Y.length) lim (by lia) (by simp; lia) (fun j hj hpj => by
        rw [hY]; exact hap i j hp hpj (by lia))
      refine ih.trans ?_
      simp
    · rw [if_neg (fun h => hp ((hP i).mp ⟨h.1.2, h.2⟩)), if_neg hp]
      exact gS X Y hi x y hY hy hap hP hx n (i + 1) (st.1, st.2) lim (by lia) (by simp; lia) (fun j hj hpj => hf j (by lia) hpj)
theorem iy (x y : List Nat) (hy : y ≠ []) (hap : ix y x) (k : Nat) (hk : k = x.length) : occurrences (txt x) (txt y) 0 k (k + 1) = fnd y x 0 := by
  subst hk
  rw [occ_eq]
  have := gS (txt x) (txt y) x.length x y (a9 y) hy hap (fun i => by rw [← mU x y i hy, a9]) rfl x.length 0 (#[], 0) (x.length + 1) (by lia) (by simp) (fun _ _ _ => Nat.zero_le _)
  simpa using this
theorem ms (x : List Nat) (c j i : Nat) : (i + (txt [c]).length ≤ j ∧ subAt (txt x) (txt [c]) i = true) ↔ List.isPrefixOf [c] ((x.take j).drop i) = true := by
  rw [a9, subAt_eq]
  show (i + 1 ≤ j ∧ ((x.drop i).take (txt [c]).length == [c]) = true) ↔ _
  rw [a9, beq_iff_eq, List.isPrefixOf_iff_prefix, List.drop_take]
  show (i + 1 ≤ j ∧ (x.drop i).take 1 = [c]) ↔ _
  cases hd : x.drop i with
  | nil => simp
  | cons d r =>
    rw [List.take_succ_cons, List.take_zero]
    constructor
    · rintro ⟨h1, h2⟩
      obtain ⟨q, e⟩ : ∃ q, j - i = q + 1 := ⟨j - i - 1, by lia⟩
      have hdc := (List.cons.inj h2).1
      subst hdc
      rw [e, List.take_succ_cons]
      exact ⟨_, rfl⟩
    · intro h
      rcases Nat.lt_or_ge i j with h1 | h1
      · obtain ⟨q, e⟩ : ∃ q, j - i = q + 1 := ⟨j - i - 1, by lia⟩
        rw [e, List.take_succ_cons] at h
        obtain ⟨t, ht⟩ := h
        exact ⟨h1, by rw [(List.cons.inj ht).1]⟩
      · rw [show j - i = 0 by lia, List.take_zero] at h
        obtain ⟨t, ht⟩ := h
        cases ht
noncomputable def Gs (z : List Nat) (w : Nat) : List Nat → Nat → List Nat → List Nat
  | s, _, [] => s
  | s, a, c :: cs => s.take (c - a) ++ z ++ Gs z w (s.drop (c - a + w)) (c + w) cs
theorem jS (z : List Nat) (w h : Nat) (s : List Nat) (a : Nat) : ∀ cuts : List Nat, (∀ c ∈ cuts, a + 1 ≤ c) → Gs z w (h :: s) a cuts = h :: Gs z w s (a + 1) cuts
  | [], _ => rfl
  | c :: cs, hc => by
    have := hc c (.head _)
    obtain ⟨d, rfl⟩ : ∃ d, c = a + 1 + d := ⟨c - (a + 1), by lia⟩
    unfold Gs
    have e1 : a + 1 + d - a = d + 1 := by lia
    have e2 : a + 1 + d - (a + 1) = d := by lia
    have e3 : d + 1 + w = (d + w) + 1 := by lia
    rw [e1, e2, e3]; rfl
theorem fK (z : Str) (p q : Str) (r : List Str) : (glued z (p :: q :: r)).cps.toList = p.cps.toList ++ z.cps.toList ++ (glued z (q :: r)).cps.toList := by
  have key : ∀ (r : List Str) (a b : Array Nat), (r.foldl (fun acc p => acc ++ z.cps ++ p.cps) (a ++ b)) = a ++ r.foldl (fun acc p => acc ++ z.cps ++ p.cps) b := by
    intro r
    induction r with
    | nil => intro a b; rfl
    | cons p r ih => intro a b; rw [List.foldl_cons, List.foldl_cons, ← ih, Array.append_assoc, Array.append_assoc, Array.append_assoc]
  unfold glued
  simp only [List.drop_succ_cons, List.drop_zero, List.headD_cons, List.foldl_cons]
  rw [key]
  simp [Array.toList_append]
theorem iz (x : List Nat) (i j : Nat) : (strSub (txt x) i j).cps.toList = (x.take j).drop i := by
  unfold strSub txt
  simp [List.drop_take]
theorem gB (x z : List Nat) (y : Str) (hi f : Nat) : ∀ (cuts : List Nat) (a : Nat), ChainTo (txt x) y hi a cuts f → (glued (txt z) (partsFrom (txt x) y.length a cuts)).cps.toList = Gs z y.length (x.drop a) a cuts
  | [], a, _ => by
    show (glued (txt z) [strSub (txt x) a (txt x).length]).cps.toList = x.drop a
    unfold glued
    simp only [List.drop_succ_cons, List.drop_zero, List.foldl_nil, List.headD_cons]
    rw [iz, a9, List.take_length]
  | c :: cs, a, h => by
    obtain ⟨h1, _, h3⟩ := h
    have ih := gB x z y hi f cs (c + y.length) h3
    unfold partsFrom
    obtain ⟨p, r, e⟩ := partsFrom_ne (txt x) y.length (c + y.length) cs
    rw [e] at ih ⊢
    have : a + (c - a + y.length) = c + y.length := by lia
    rw [fK, ih, iz, Gs, List.drop_drop, List.drop_take, this]; rfl
theorem jh (x y z : List Nat) (hy : y ≠ []) (hap : ix y x) : (glued (txt z) (partsBetween (txt x) (occurrences (txt x) (txt y) 0 (txt x).length ((txt x).length + 1)) (txt y).length)).cps.toList = Gs z y.length x 0 (fnd y x 0) := by
  obtain ⟨f, hf⟩ := occ_chain (txt x) (txt y) ((txt x).length + 1)
  rw [partsBetween_eq, gB x z (txt y) _ f _ _ hf, iy x y hy hap _ (a9 x), a9]; rfl
theorem iA (x y z : List Nat) (hy : y ≠ []) (hap : ix y x) : rep x y z = Gs z y.length x 0 (fnd y x 0) := by
  unfold rep Txt.replace
  split
  · rename_i h
    rw [Bool.or_eq_true] at h
    rcases h with h | h
    · rw [iy x y hy hap _ (a9 x), List.isEmpty_iff] at h
      rw [h]; rfl
    · rw [Bool.and_eq_true, beq_iff_eq, a9] at h
      exact absurd (List.length_eq_zero_iff.mp h.1) hy
  · exact jh x y z hy hap
theorem ou (l : List Str) : (l.map fun s => s.cps.toList).map txt = l := by
  rw [List.map_map]
  conv => rhs; rw [← List.map_id l]
  exact List.map_congr_left fun s _ => by cases s; rfl
theorem jT (x y z : List Nat) (hy : y ≠ []) (hap : ix y x) (hk : Builtin.Str.strKind (txt y) = 1) : joi z (spl x y) = Gs z y.length x 0 (fnd y x 0) := by
  unfold joi spl
  rw [ou]
  unfold Txt.join Txt.split
  have hone : (glued (txt z) [txt x]).cps.toList = x := rfl
  split
  · rename_i h
    rw [hone]
    have : fnd y x 0 = [] := by
      rcases hq : fnd y x 0 with _ | ⟨i, r⟩
      · rfl
      · have hm : i ∈ occurrences (txt x) (txt y) 0 (txt x).length ((txt x).length + 1) := by rw [iy x y hy hap _ (a9 x), hq]; exact .head _
        rw [Bool.or_eq_true, decide_eq_true_eq, decide_eq_true_eq, hk] at h
        obtain ⟨f, hf⟩ := occ_chain (txt x) (txt y) ((txt x).length + 1)
        rw [iy x y hy hap _ (a9 x), hq] at hf
        have h1 := hf.2.1.1
        rcases h with h | h
        · lia
        · have : 1 ≤ Builtin.Str.strKind (txt x) := by unfold Builtin.Str.strKind; split; exact Nat.le_refl _; split <;> decide
          lia
    rw [this]; rfl
  · split
    · rename_i h
      rw [hone]
      rw [iy x y hy hap _ (a9 x), List.isEmpty_iff] at h
      rw [h]; rfl
    · exact jh x y z hy hap
noncomputable def lf (c : Nat) : Nat := if c = 13 then 10 else c
noncomputable def dg : List Nat → List Nat
  | [] => []
  | [c] => [c]
  | c :: d :: r => if c = 13 ∧ d = 10 then 10 :: dg r else c :: dg (d :: r)
noncomputable def bp (x : List Nat) : List Nat := (dg x).map lf
theorem iB (c : Nat) (x : List Nat) : ix [c] x := fun i j _ _ h => h
theorem jU (c d : Nat) (hcd : c ≠ d) (x : List Nat) : ix [c, d] x := by
  intro i j h1 h2 h
  show i + 2 ≤ j
  rcases Nat.lt_or_ge j (i + 2) with h3 | h3
  · obtain rfl : j = i + 1 := by lia
    rw [List.isPrefixOf_iff_prefix] at h1 h2
    obtain ⟨r1, e1⟩ := h1
    obtain ⟨r2, e2⟩ := h2
    have : x.drop (i + 1) = (x.drop i).drop 1 := by rw [List.drop_drop]
    rw [← e1] at this
    rw [← e2] at this
    simp at this
    exact absurd this.1 hcd
  · exact h3
theorem pS : ∀ (s : List Nat) (a : Nat), Gs [10] 1 s a (fnd [13] s a) = s.map lf
  | [], _ => rfl
  | c :: r, a => by
    unfold fnd
    by_cases h : c = 13
    · subst h
      rw [if_pos (by simp [List.isPrefixOf])]
      unfold Gs
      rw [Nat.sub_self]
      show [10] ++ Gs [10] 1 r (a + 1) (fnd [13] r (a + 1)) = _
      rw [pS r (a + 1)]; rfl
    · rw [if_neg (by simp [List.isPrefixOf]; exact fun e => h e.symm), jS _ _ _ _ _ _ (iw _ _ _), pS r (a + 1)]
      simp [lf, h]
theorem gx : ∀ (n : Nat) (s : List Nat) (a : Nat), s.length ≤ n → Gs [10] 2 s a (fnd [13, 10] s a) = dg s
  | _, [], _, _ => rfl
  | n, [c], a, _ => by
    have : fnd [13, 10] [c] a = [] := by simp [fnd, List.isPrefixOf]
    rw [this]; rfl
  | n + 1, c :: d :: r, a, hn => by
    rw [fnd, dg]
    by_cases h : c = 13 ∧ d = 10
    · obtain ⟨rfl, rfl⟩ := h
      rw [if_pos (by simp [List.isPrefixOf]), if_pos ⟨rfl, rfl⟩]
      have e : fnd [13, 10] (10 :: r) (a + 1) = fnd [13, 10] r (a + 2) := by
        rw [fnd, if_neg (by simp [List.isPrefixOf])]
      rw [e]
      unfold Gs
      rw [Nat.sub_self]
      show [10] ++ Gs [10] 2 r (a + 2) (fnd [13, 10] r (a + 2)) = _
      rw [gx n r (a + 2) (by simp at hn; lia)]; rfl
    · rw [if_neg, if_neg h, jS _ _ _ _ _ _ (iw _ _ _), gx n (d :: r) (a + 1) (by simp at hn ⊢; lia)]
      intro h2
      simp [List.isPrefixOf] at h2
      exact h ⟨h2.1.symm, h2.2.symm⟩
theorem ow (x : List Nat) : rep (rep x [13, 10] [10]) [13] [10] = bp x := by
  rw [iA x _ _ (by simp) (jU _ _ (by decide) _), iA _ _ _ (by simp) (iB _ _)]
  show Gs [10] 1 (Gs [10] 2 x 0 (fnd [13, 10] x 0)) 0 (fnd [13] (Gs [10] 2 x 0 (fnd [13, 10] x 0)) 0) = _
  rw [gx x.length x 0 (Nat.le_refl _), pS]; rfl
theorem kA (x : List Nat) : joi [10] (spl (joi [10] (spl x [13, 10])) [13]) = bp x := by
  rw [jT x _ _ (by simp) (jU _ _ (by decide) _) (by decide +kernel), jT _ _ _ (by simp) (iB _ _) (by decide +kernel)]
  show Gs [10] 1 (Gs [10] 2 x 0 (fnd [13, 10] x 0)) 0 (fnd [13] (Gs [10] 2 x 0 (fnd [13, 10] x 0)) 0) = _
  rw [gx x.length x 0 (Nat.le_refl _), pS]; rfl
theorem sw (x : List Nat) (c : Nat) (z : List Nat) (hc : c ∉ x) : rep x [c] z = x := by
  rw [iA x _ _ (by simp) (iB _ _)]
  have : ∀ (s : List Nat) (a : Nat), c ∉ s → fnd [c] s a = [] := by
    intro s
    induction s with
    | nil => intro a _; rfl
    | cons d r ih =>
      intro a h
      rw [List.mem_cons, not_or] at h
      rw [fnd, if_neg (by simp [List.isPrefixOf]; exact h.1), ih _ h.2]
  rw [this x 0 hc]; rfl
theorem Gs1 (c : Nat) (z : List Nat) : ∀ (s : List Nat) (a : Nat), Gs z 1 s a (fnd [c] s a) = s.flatMap fun d => if d = c then z else [d]
  | [], _ => rfl
  | d :: r, a => by
    unfold fnd
    by_cases h : d = c
    · subst h
      rw [if_pos (by simp [List.isPrefixOf])]
      unfold Gs
      rw [Nat.sub_self]
      show [] ++ z ++ Gs z 1 r (a + 1) (fnd [d] r (a + 1)) = _
      rw [Gs1 d z r (a + 1)]; simp
    · rw [if_neg (by simp [List.isPrefixOf]; exact fun e => h e.symm), jS _ _ _ _ _ _ (iw _ _ _), Gs1 c z r (a + 1)]
      simp [h]
theorem kC (x : List Nat) (c d : Nat) : rep x [c] [d] = x.map fun a => if a = c then d else a := by
  rw [iA x _ _ (by simp) (iB _ _)]
  show Gs [d] 1 x 0 _ = _
  rw [Gs1, List.map_eq_flatMap]
  congr 1; funext a; split <;> rfl
theorem pT (x : List Nat) : ∀ y, x = y → dg (y ++ [13]) = dg y ++ [13] := by
  induction x using dg.induct with
  | case1 => rintro _ rfl; rfl
  | case2 c => rintro _ rfl; simp [dg]
  | case3 c d r h ih => rintro _ rfl; rw [List.cons_append, List.cons_append, dg, if_pos h, dg, if_pos h, ih _ rfl]; rfl
  | case4 c d r h ih => rintro _ rfl; have := ih _ rfl; rw [List.cons_append, List.cons_append, dg, if_neg h, dg, if_neg h, ← List.cons_append, this]; rfl
theorem pU (y : List Nat) : bp (y ++ [13]) = bp y ++ [10] := by unfold bp; rw [pT _ y rfl]; simp [lf]
theorem pV {x : List Nat} (h : x ≠ []) : bp x ≠ [] := by
  intro e
  unfold bp at e
  rw [List.map_eq_nil_iff] at e
  cases x with
  | nil => exact h rfl
  | cons c r => cases r with
    | nil => cases e
    | cons d r => rw [dg] at e; split at e <;> cases e
theorem pW (x : List Nat) (h : 13 ∉ x) : dg x = x := by
  induction x using dg.induct with
  | case1 => rfl
  | case2 c => rfl
  | case3 c d r hc ih => exact absurd (by rw [hc.1]; exact .head _) h
  | case4 c d r hc ih => rw [dg, if_neg hc, ih (fun e => h (.tail _ e))]
theorem pX (x : List Nat) (h : 13 ∉ x) : bp x = x := by
  unfold bp
  rw [pW x h]
  conv => rhs; rw [← List.map_id x]
  exact List.map_congr_left fun c hc => by unfold lf; rw [if_neg (fun e : c = 13 => h (e ▸ hc))]; rfl
theorem pY (x : List Nat) : 13 ∉ bp x := by
  intro h
  obtain ⟨c, _, e⟩ := List.mem_map.mp h
  unfold lf at e
  split at e
  · cases e
  · contradiction
theorem iC (x : List Nat) : (dg x).length ≤ x.length := by
  induction x using dg.induct with
  | case1 => exact Nat.le_refl _
  | case2 c => exact Nat.le_refl _
  | case3 c d r hc ih => rw [dg, if_pos hc]; simp; lia
  | case4 c d r hc ih => rw [dg, if_neg hc]; simp at ih ⊢; lia
theorem gc (x : List Nat) : (bp x).length ≤ x.length := by unfold bp; rw [List.length_map]; exact iC x
theorem kD {x : List Nat} {c : Nat} (h : c ∈ bp x) : c = 10 ∨ c ∈ x := by
  have key : ∀ x : List Nat, ∀ c ∈ dg x, c = 10 ∨ c ∈ x := by
    intro x
    induction x using dg.induct with
    | case1 => intro c h; cases h
    | case2 c => intro c h; exact .inr h
    | case3 c d r hc ih =>
      intro e h
      rw [dg, if_pos hc] at h
      rcases List.mem_cons.mp h with rfl | h
      · exact .inl rfl
      · exact (ih e h).imp id fun q => .tail _ (.tail _ q)
    | case4 c d r hc ih =>
      intro e h
      rw [dg, if_neg hc] at h
      rcases List.mem_cons.mp h with rfl | h
      · exact .inr (.head _)
      · exact (ih e h).imp id fun q => .tail _ q
  unfold bp at h
  obtain ⟨d, hd, e⟩ := List.mem_map.mp h
  unfold lf at e
  split at e
  · exact .inl e.symm
  · subst e; exact key x d hd
theorem jV (X Y : Str) (hi : Nat) (x y : List Nat) (hy : y ≠ []) (hP : ∀ i, (i + Y.length ≤ hi ∧ subAt X Y i = true) ↔ y.isPrefixOf (x.drop i) = true) (hx : x.length = hi) : ∀ (n i : Nat) (st : Option Nat), i + n = x.length →
    (forIn (List.range' i (n + 1)) st fun i last => (if i + Y.length ≤ hi ∧ subAt X Y i = true then pure (ForInStep.yield (some i)) else pure (ForInStep.yield last) : Id (ForInStep (Option Nat)))).run = match (fnd y (x.drop i) i).getLast? with | some j => some j | none => st
  | 0, i, st, hn => by
    have e : x.drop i = [] := List.drop_eq_nil_of_le (by lia)
    rw [e, show List.range' i (0 + 1) = [i] from rfl, List.forIn_cons, if_neg]
    · rfl
    · intro h
      have := (hP i).mp h
      rw [e] at this
      cases y with
      | nil => exact hy rfl
      | cons _ _ => cases this
  | n + 1, i, st, hn => by
    have hi' : i < x.length := by lia
    have e : x.drop i = x[i] :: x.drop (i + 1) := List.drop_eq_getElem_cons hi'
    rw [List.range'_succ, List.forIn_cons, e]
    unfold fnd
    rw [← e]
    by_cases hp : y.isPrefixOf (x.drop i) = true
    · rw [if_pos ((hP i).mpr hp), if_pos hp]
      refine (jV X Y hi x y hy hP hx n (i + 1) (some i) (by lia)).trans ?_
      rw [List.getLast?_cons]
      cases (fnd y (x.drop (i + 1)) (i + 1)).getLast? <;> rfl
    · rw [if_neg (fun h => hp ((hP i).mp h)), if_neg hp]
      exact jV X Y hi x y hy hP hx n (i + 1) st (by lia)
theorem pZ (s sub : Str) (hi : Nat) : lastOccurrence s sub 0 hi = (forIn (List.range' 0 (hi + 1)) none fun i last => (if i + sub.length ≤ hi ∧ subAt s sub i = true then pure (ForInStep.yield (some i)) else pure (ForInStep.yield last) : Id (ForInStep (Option Nat)))).run := by
  unfold lastOccurrence
  simp
theorem kE (c d : Nat) : ∀ (x : List Nat) (a : Nat), fnd [c] (x ++ [d]) a = fnd [c] x a ++ if d = c then [a + x.length] else []
  | [], a => by
    rw [List.nil_append, fnd]
    by_cases h : d = c
    · subst h; simp [fnd, List.isPrefixOf]
    · have : ¬ (c = d) := fun q => h q.symm
      simp [fnd, List.isPrefixOf, h, this]
  | e :: x, a => by
    rw [List.cons_append, fnd, fnd, kE c d x (a + 1), show a + 1 + x.length = a + (e :: x).length by simp; lia]
    by_cases h : c = e
    · subst h; simp [List.isPrefixOf]
    · simp [List.isPrefixOf, h]
noncomputable def adv (p : Int × Int) (c : Nat) : Int × Int := if c = 10 then (p.1 + 1, 0) else (p.1, p.2 + 1)
noncomputable def bv (p : Int × Int) (x : List Nat) : Int × Int := x.foldl adv p
theorem cW (p : Int × Int) (x : List Nat) (c : Nat) : bv p (x ++ [c]) = adv (bv p x) c := by unfold bv; rw [List.foldl_append]; rfl
theorem mt {P : List Nat → Prop} (h0 : P []) (h1 : ∀ x c, P x → P (x ++ [c])) : ∀ x, P x := by
  intro x
  rw [← List.reverse_reverse x]
  induction x.reverse with
  | nil => exact h0
  | cons c r ih => rw [List.reverse_cons]; exact h1 _ _ ih
theorem mV (pl pc : Int) : ∀ x : List Nat, bv (pl, pc) x = (pl + (fnd [10] x 0).length, match (fnd [10] x 0).getLast? with | some j => (x.length : Int) - ((j : Int) + 1) | none => pc + x.length) := by
  refine mt ?_ ?_
  · show (pl, pc) = _; simp [fnd]
  · intro x c ih
    rw [cW, ih, kE, adv]
    by_cases h : c = 10
    · subst h
      simp [List.getLast?_append]
      lia
    · rw [if_neg h, if_neg h, List.append_nil]
      cases (fnd [10] x 0).getLast? <;> simp <;> lia
theorem q9 (pl pc o : Int) (x : List Nat) (h0 : 0 ≤ o) (h1 : o ≤ x.length) : (pl + cnt x [10] o.toNat, if rfi x [10] o.toNat = -1 then pc + o else o - (rfi x [10] o.toNat + 1)) = bv (pl, pc) (x.take o.toNat) := by
  have hl : (x.take o.toNat).length = o.toNat := by rw [List.length_take]; lia
  rw [mV]
  have ec : cnt x [10] o.toNat = ((fnd [10] (x.take o.toNat) 0).length : Nat) := by
    unfold cnt
    rw [occ_eq]
    have := gS (txt x) (txt [10]) o.toNat (x.take o.toNat) [10] (a9 _) (by simp) (iB _ _) (ms x 10 o.toNat) hl o.toNat 0 (#[], 0) (x.length + 1) (by lia) (by simp; lia) (fun _ _ _ => Nat.zero_le _)
    rw [Nat.sub_zero, this]
    simp
  have er : rfi x [10] o.toNat = match (fnd [10] (x.take o.toNat) 0).getLast? with | some j => (j : Int) | none => -1 := by
    unfold rfi
    have := jV (txt x) (txt [10]) o.toNat (x.take o.toNat) [10] (by simp) (ms x 10 o.toNat) hl o.toNat 0 none (by lia)
    rw [pZ, this]
    show (match (match (fnd [10] (x.take o.toNat) 0).getLast? with | some j => some j | none => none) with | some i => (i : Int) | none => -1) = _
    cases (fnd [10] (x.take o.toNat) 0).getLast? <;> rfl
  rw [ec, er, hl]
  congr 1
  cases (fnd [10] (x.take o.toNat) 0).getLast? with
  | none => simp; lia
  | some j => simp only []; rw [if_neg (by lia)]; lia
end Mine
end
section
open PySem PySem.W
namespace Mine
theorem aQ {a : List AO} {i : Nat} {X : AO} (h : i < a.length) : (a.set i X)[i]? = some X := List.getElem?_set_self h
theorem aM {a : List AO} {i j : Nat} {X : AO} (h : i ≠ j) : (a.set i X)[j]? = a[j]? := List.getElem?_set_ne h
theorem dq {a r : List AO} {i : Nat} (h : i < a.length) : (a ++ r)[i]? = a[i]? := List.getElem?_append_left h
theorem bf {a : List AO} {n : Nat} {X : AO} (h : n = a.length) : (a ++ [X])[n]? = some X := by subst h; simp
theorem sy {n i : Nat} {os : List AO} : cP n os (.obj i) = match os[i]? with
    | some (.inst C fs) => bif cv C n then (match ag n fs with | some a => bif cu a then some a else none | none => none) else none
    | _ => none := rfl
theorem aP {os : List AO} {i j : Nat} {X Y : AO} (h : os[i]? = some X) (h' : os[j]? = some Y) (hn : X ≠ Y) : i ≠ j := by
  rintro rfl
  rw [h] at h'
  exact hn (Option.some.inj h')
theorem Keep.len {a b : List AO} {L : List Nat} (h : Keep a b L) : a.length ≤ b.length := h.1
theorem kF {a b c : Int} {n : Nat} {st : St} {k : Bool → St → Prop} (hl : ag n st.loc = some (.int c)) (h : k (decide (a ≤ c) && decide (c ≤ b)) st) : cD tb .LtE .LtE (ad (.int a)) (aa n) (ad (.int b)) st k := by
  cases q : decide (a ≤ c) with
  | true => rw [q, Bool.true_and] at h; exact fJ (co := .LtE) (a := .int a) aA (af hl) (congrArg some q) aA rfl _ h
  | false => rw [q, Bool.false_and] at h; exact iq (co := .LtE) (a := .int a) aA (af hl) (congrArg some q) _ h
theorem ox {a b c : Int} {n : Nat} {st : St} {p : Bool} (hl : ag n st.loc = some (.int c)) (h : (decide (a ≤ c) && decide (c ≤ b)) = p) : Ev (cD tb .LtE .LtE (ad (.int a)) (aa n) (ad (.int b))) st p st := fun _ hK => kF hl (by rw [h]; exact hK)
noncomputable def gK (k : AV → List AO → Prop) : AF → St → Prop := fun fl st' => match fl with
  | .ret v => k v st'.objs
  | .next => k .none st'.objs
  | _ => False
theorem bW {ns : List Nat} {ds avs : List AV} {Tb : TS} {os : List AO} {loc : List (Nat × AV)} {k : AV → List AO → Prop} (hb : cM ns ds avs = some loc) (h : Tb ⟨loc, os⟩ (gK k)) : cL (cM ns ds) Tb avs os k := by
  unfold cL; rw [hb]; exact h
theorem dh {a b c : Int} {n : Nat} {st : St} (hl : ag n st.loc = some (.int c)) (k : AV → St → Prop) (h : ∀ b, k (.bool b) st) : ju (cD tb .LtE .LtE (ad (.int a)) (aa n) (ad (.int b))) st k := by
  unfold ju
  exact kF hl (h _)
theorem gd {T U : TE} {st : St} {k : AV → St → Prop} (hT : ∀ k' : AV → St → Prop, (∀ b, k' (.bool b) st) → T st k') (hk : ∀ b, k (.bool b) st) (hU : U st k) : iR tb T U st k := by
  unfold iR
  refine hT _ fun b => ?_
  show bif b then k (.bool b) st else U st k
  cases b
  · exact hU
  · exact hk _
theorem iD {os : List AO} {c : Int} {k : AV → List AO → Prop} (h : ∀ b r, k (.bool b) (os ++ r)) : F.uis_invalid [.int c] os k := by
  refine bW (loc := [(N.G, .int c)]) rfl ?_
  have hl : ag N.G [(N.G, AV.int c)] = some (.int c) := aE _ _ _
  have h0 : ∀ b, k (.bool b) os := fun b => by have := h b []; rwa [List.append_nil] at this
  simp only [T.uis_invalid, ae, ay]
  refine gd (dh hl) h0 (gd (fun k' hk' => ?_) h0 (gd (dh hl) h0 (gd (dh hl) h0 (gd (dh hl) h0 ?_))))
  · simp only [dR, aa, ad, hl, bz, deq, bt, eqS]; exact hk' _
  · have e1 : ∀ x : AV, ∀ y : AV, Nat.ble [x, y].length 1000 = true := fun _ _ => rfl
    have e2 : ((65536 : Int) != 0) = true := rfl
    have e3 : ∀ X, (os ++ [X])[os.length]? = some X := fun X => by simp
    simp only [iR, dR, cA, aa, ad, hl, iS, bq, aX, bz, inA, bt, gF, eqS, e1, e2, cond_true, e3, eS]
    generalize (decide ((65534 : Int) = _) || _) = b
    cases b
    · rw [cond_false]; refine dh hl _ (fun b => ?_); exact h b _
    · exact h true _
theorem mW {x : List Nat} {os : List AO} : cg tb os 0 (.str x) x.length = some none := by
  show (match x[x.length]? with | some c => some (some (AV.str [c])) | none => bif Nat.beq x.length x.length then some none else none) = _
  rw [List.getElem?_eq_none (Nat.le_refl _), Nat.beq_refl]; rfl
theorem mX {x : List Nat} {os : List AO} {i c : Nat} (h : x[i]? = some c) : cg tb os 0 (.str x) i = some (some (.str [c])) := by
  show (match x[i]? with | some c => some (some (AV.str [c])) | none => _) = _
  rw [h]
theorem kG {x : List Nat} {j : Nat} {U : AV → TS} {Tb : TS} {k : AF → St → Prop} (I : Nat → St → Prop)
    (step : ∀ i c st (K : AF → St → Prop), x[i]? = some c → I i st → st.objs[j]? = some (.iter 0 (.str x) i) → (∀ st2, st2.objs[j]? = some (.iter 0 (.str x) (i + 1)) → I (i + 1) st2 → K .next st2) →
      U (.str [c]) { st with objs := st.objs.set j (.iter 0 (.str x) (i + 1)) } fun _ st1 => Tb st1 K)
    (done : ∀ st, I x.length st → st.objs[j]? = some (.iter 0 (.str x) x.length) → k .next { st with objs := st.objs.set j gone }) :
    ∀ (n i : Nat) (st : St), i + n = x.length → I i st → st.objs[j]? = some (.iter 0 (.str x) i) → dD tb j U Tb (n + 1) st k := by
  intro n
  induction n with
  | zero =>
    intro i st e hI hj
    obtain rfl : i = x.length := e
    unfold dD
    rw [hj]; dsimp only; rw [mW (x := x)]
    exact done st hI hj
  | succ n ih =>
    intro i st e hI hj
    have hi : i < x.length := by rw [← e]; exact Nat.lt_add_of_pos_right (Nat.succ_pos n)
    unfold dD
    rw [hj]; dsimp only; rw [mX (List.getElem?_eq_getElem hi)]
    exact step i x[i] st _ (List.getElem?_eq_getElem hi) hI hj fun st2 h2 h3 => ih (i + 1) st2 (by rw [← e, Nat.add_assoc, Nat.add_comm 1 n]) h3 h2
theorem bk {n m : Nat} {a v : AV} {l : List (Nat × AV)} (hne : m ≠ n) (h : ag n l = some a) : ag n (put m v l) = some a := (cH v (fun e => hne e.symm) l).trans h
theorem jW {os : List AO} {s e : Nat} {fs : List (Nat × AV)} {er : List AV} {X : List Nat} {k : AV → List AO → Prop} (hs : os[s]? = some (.inst 166 fs)) (hf : ag N.ax fs = some (.obj e)) (he : os[e]? = some (.list er)) (hb : er.length + X.length ≤ 100000)
    (h : ∀ os' er', os'[e]? = some (.list er') → er'.length ≤ er.length + X.length → Keep os os' [e] → k .none os') : F.characterErrorsUCS4 [.obj s, .str X] os k := by
  refine bW (loc := [(N.a, .obj s), (N.b, .str X)]) rfl ?_
  have hd : ag N.b [(N.a, AV.obj s), (N.b, .str X)] = some (.str X) := rfl
  refine mi (af hd) ⟨X.length + 1, ?_⟩
  have hse : s ≠ e := aP hs he (by simp)
  have hsl := ax hs
  have hel := ax he
  refine kG (x := X) (j := os.length) (fun i st => ag N.a st.loc = some (.obj s) ∧ (∃ er', st.objs[e]? = some (.list er') ∧ er'.length ≤ er.length + i) ∧ Keep os st.objs [e, os.length]) ?_ ?_ X.length 0 _ (by lia) ⟨rfl, ⟨er, aT he, by lia⟩, Keep.app (Keep.refl _ _)⟩ (by simp)
  · intro i c st K hc ⟨hself, ⟨er', her, hel'⟩, hk⟩ hj hK
    have hi : i < X.length := (List.getElem?_eq_some_iff.mp hc).1
    have hj2 := ax hj
    have hlen := hk.len
    have hje : os.length ≠ e := by lia
    have hc2 : ∀ l : List (Nat × AV), ag N.s (put N.s (.str [c]) l) = some (.str [c]) := fun l => am _ _ _
    refine mh (gI (oi (f9 (bi (df (os' := st.objs.set os.length (AO.iter 0 (.str X) (i + 1))) (a := .int c) (bi (af (hc2 _))) fun _ h => lx h)) (iD fun b r => ?_))))
    have k2 : Keep os (st.objs.set os.length (AO.iter 0 (.str X) (i + 1)) ++ r) [e, os.length] := (hk.set (.tail _ (.head _))).app
    have her2 : (st.objs.set os.length (AO.iter 0 (.str X) (i + 1)) ++ r)[e]? = some (.list er') := aT (gv her (fun q => hje q))
    have hself2 : ag N.a (put N.s (.str [c]) st.loc) = some (.obj s) := bk (by decide) hself
    have hj3 : (st.objs.set os.length (AO.iter 0 (.str X) (i + 1)) ++ r)[os.length]? = some (.iter 0 (.str X) (i + 1)) := aT (n6 hj)
    cases b with
    | false => exact hK _ hj3 ⟨hself2, ⟨er', her2, by lia⟩, k2⟩
    | true =>
      have hs2 : (st.objs.set os.length (AO.iter 0 (.str X) (i + 1)) ++ r)[s]? = some (.inst 166 fs) := k2.at hs (ly hse (by lia))
      refine aO (ir (aV (af hself2) hs2 g3 hf rfl) aA her2 her2 (by lia)) ?_
      refine hK _ ?_ ⟨hself2, ⟨_, n6 her2, by rw [List.length_append]; show _ + 1 ≤ _; lia⟩, k2.set (.head _)⟩
      exact gv hj3 (fun q => hje q.symm)
  · intro st ⟨hself, ⟨er', her, hel'⟩, hk⟩ hj
    have hje : os.length ≠ e := by lia
    refine h _ er' (gv her hje) hel' ⟨by rw [List.length_set]; exact hk.1, fun q hq hn => ?_⟩
    show (st.objs.set os.length gone)[q]? = _
    rw [aM (by lia)]
    exact hk.2 q hq (ly (fun w => hn (w ▸ .head _)) (by lia))
noncomputable def T.rc3 : TS :=
  (ae (aIf (bY tb (ak N.C (aa N.a))) (ae (aK (iQ N.C FTr (aa N.a) [(aa N.b)]))
  aj) aj)
  (ae (aR N.b (gH [13, 10] [10] (aa N.b)))
  (ae (aR N.b (gH [13] [10] (aa N.b)))
  (ae (ah N.z (aa N.b) (aa N.a))
  (ae (ah N.w (aW eT [(aa N.b)]) (aa N.a))
  (ae (ay (ad (.bool true)))
  aj))))))
noncomputable def T.rc2 : TS :=
  (ae (aIf (aq tb .Gt (aW eT [(aa N.b)]) (ad (.int 1))) (ae (aR N.ah (aW jF [(aU tb (aa N.b) (dE (ad (.int 1))))]))
  (ae (aIf (aOr (aq tb .Eq (aa N.ah) (ad (.int 13))) (aOr (cD tb .LtE .LtE (ad (.int 55296)) (aa N.ah) (ad (.int 56319))) (aB false))) (ae (ah N.U (aU tb (aa N.b) (dE (ad (.int 1)))) (aa N.a))
  (ae (aR N.b (dG (aa N.b) none (some (dE (ad (.int 1))))))
  aj)) aj)
  aj)) aj)
  T.rc3)
noncomputable def T.rc1b : TS :=
  (ae (aR N.b (aI N.bj 70 F.read (ak N.V (aa N.a)) [(aa N.w)]))
  (ae (aIf (bY tb (ak N.U (aa N.a))) (ae (aR N.b (cA .Add (ak N.U (aa N.a)) (aa N.b)))
  (ae (ah N.U (ad .none) (aa N.a))
  aj)) (ae (aIf (jw (bY tb (aa N.b))) (ae (ay (ad (.bool false)))
  aj) aj)
  aj))
  T.rc2))
noncomputable def T.rc1 : TS :=
  (ae (aIf (aq tb .Is (aa N.w) (ad .none)) (ae (aR N.w (fQ 166 N.aR 10240 (aa N.a)))
  aj) aj)
  (ae (gu tb (aI N.aH 119 F.uposition (aa N.a) [(ak N.w (aa N.a))]) [(ew N.as (aa N.a)), (ew N.ar (aa N.a))])
  (ae (ah N.z (ad (.str [])) (aa N.a))
  (ae (ah N.w (ad (.int 0)) (aa N.a))
  (ae (ah N.r (ad (.int 0)) (aa N.a))
  T.rc1b)))))
theorem rN : T.readChunk = T.rc1 := rfl
theorem kH (x : List Nat) : rep x [13, 10] [10] = dg x := by
  rw [iA x _ _ (by simp) (jU _ _ (by decide) _)]
  exact gx x.length x 0 (Nat.le_refl _)
theorem iE {hp : List AO} {loc : List (Nat × AV)} {s rm e : Nat} {nl ds b : AV} {pl pc : Int} {er : List AV} {D : List Nat} {k : AV → List AO → Prop}
    (hself : ag N.a loc = some (.obj s)) (hdata : ag N.b loc = some (.str D)) (hs : hp[s]? = some (.inst 166 (Sfs (.obj rm) nl ds (.obj e) b [] 0 0 pl pc))) (hrm : hp[rm]? = some (.meth 148 (.obj s))) (he : hp[e]? = some (.list er))
    (hD : D.length ≤ 20000) (hb : er.length ≤ 30000)
    (h : ∀ os' er', os'[s]? = some (.inst 166 (Sfs (.obj rm) nl ds (.obj e) b (bp D) (bp D).length 0 pl pc)) → os'[e]? = some (.list er') → er'.length ≤ er.length + D.length → Keep hp os' [s, e] → k (.bool true) os') :
    T.rc3 ⟨loc, hp⟩ (gK k) := by
  have hse : s ≠ e := aP hs he (by simp)
  have hre : rm ≠ e := aP hrm he (by simp)
  have l1 : ag N.ax (Sfs (.obj rm) nl ds (.obj e) b [] 0 0 pl pc) = some (.obj e) := rfl
  have em : rep (dg D) [13] [10] = bp D := by rw [← kH, ow]
  have hcl := iC D
  have hml := gc D
  refine cS (eA (aV (af hself) hs g6 rfl rfl) (by show (match hp[rm]? with | some (.meth _ _) => some true | some (.list l) => _ | _ => none) = _; rw [hrm])) ?_
  refine bA (om (oj (af hself) (mj hs g6 rfl rfl) hrm rfl (bi (af hdata)) hrm ?_))
  refine jW hs l1 he (by lia) fun os' er' h1 h2 h3 => ?_
  have hs' := h3.at hs (fun q => hse (List.mem_singleton.mp q))
  have hlt := ax hs'
  refine ar (aO (bR (ol (af hdata) (by lia) rfl)) ?_)
  rw [kH]
  refine aO (bR (ol (af lk0) (by lia) rfl)) ?_
  rw [em]
  refine aO (cy (af lk0) (af (lk rfl (lk rfl hself))) hs' f1 rfl) ?_
  refine aO (cy (jO (af lk0) (by lia)) (af (lk rfl (lk rfl hself))) (aQ hlt) g1 rfl) ?_
  refine eQ aA ?_
  show k _ ((os'.set s _).set s _)
  rw [List.set_set]
  refine h _ er' (aQ hlt) ?_ h2 ?_
  · show (os'.set s _)[e]? = _
    rw [aM hse]; exact h1
  · exact (h3.sub fun _ q => .tail _ q).set (.head _)
noncomputable def eU (D : List Nat) : List Nat := if 1 < D.length ∧ D.getLast? = some 13 then D.dropLast else D
noncomputable def fm (D : List Nat) : List Nat := if 1 < D.length ∧ D.getLast? = some 13 then [13] else []
noncomputable def gL : List Nat → AV
  | [] => .none
  | l => .str l
theorem oy {D : List Nat} (h : 0 < D.length) : D[D.length - 1]? = D.getLast? := by rw [List.getLast?_eq_getElem?]
theorem kI {hp : List AO} {loc : List (Nat × AV)} {s rm e : Nat} {nl ds : AV} {pl pc : Int} {er : List AV} {D : List Nat} {k : AV → List AO → Prop}
    (hself : ag N.a loc = some (.obj s)) (hdata : ag N.b loc = some (.str D)) (hs : hp[s]? = some (.inst 166 (Sfs (.obj rm) nl ds (.obj e) .none [] 0 0 pl pc))) (hrm : hp[rm]? = some (.meth 148 (.obj s))) (he : hp[e]? = some (.list er))
    (hD : D.length ≤ 20000) (hb : er.length ≤ 30000) (h0 : D ≠ []) (hsur : ∀ c ∈ D, c < 55296 ∨ 56319 < c)
    (h : ∀ os' er', os'[s]? = some (.inst 166 (Sfs (.obj rm) nl ds (.obj e) (gL (fm D)) (bp (eU D)) (bp (eU D)).length 0 pl pc)) → os'[e]? = some (.list er') → er'.length ≤ er.length + (eU D).length → Keep hp os' [s, e] → k (.bool true) os') :
    T.rc2 ⟨loc, hp⟩ (gK k) := by
  have hpos : 0 < D.length := List.length_pos_iff.mpr h0
  have hse : s ≠ e := aP hs he (by simp)
  have hlt := ax hs
  have b1 : Nat.ble D.length 1000000 = true := Nat.ble_eq_true_of_le (by lia)
  have cl := fun p => be (co := .Gt) (p := p) (jO (af (st := ⟨loc, hp⟩) hdata) (by lia)) (aA (a := .int 1))
  by_cases hl : 1 < D.length
  · have cl := cl true (congrArg some (decide_eq_true (show (1 : Int) < D.length by lia)))
    obtain ⟨c, hc⟩ : ∃ c, D.getLast? = some c := ⟨_, List.getLast?_eq_some_getLast h0⟩
    have hsc := hsur c (List.mem_of_getLast? hc)
    have eg : D[D.length - 1]? = some c := by rw [oy hpos, hc]
    have sb := fun (loc : List (Nat × AV)) (hd : ag N.b loc = _) => ey (st := ⟨loc, hp⟩) (af hd) (ip (aA (a := .int 1))) (gb b1 (kl hpos) eg)
    refine cS cl ?_
    refine bA (aO (bR (df (os' := hp) (a := .int c) (bi (sb loc hdata)) fun _ h => lx h)) ?_)
    by_cases h13 : c = 13
    · subst h13
      rw [show eU D = D.dropLast from if_pos ⟨hl, hc⟩, show fm D = [13] from if_pos ⟨hl, hc⟩] at h
      refine bA (cS (jL (be (af lk0) aA rfl)) ?_)
      refine bA (aO (cy (sb _ (lk rfl hdata)) (af (lk rfl hself)) hs g4 rfl) ?_)
      refine bA (aO (bR (eE (af (lk rfl hdata)) fi (cV (ip (aA (a := .int 1)))) (eF (u := none) (v := some (-1)) b1))) ?_)
      rw [pB]
      refine ar (ar ?_)
      refine iE (e := e) (rm := rm) (er := er) (D := D.dropLast) (lk rfl (lk rfl hself)) lk0 (aQ hlt) ((aM (aP hs hrm (by simp))).trans hrm) ((aM hse).trans he) (by rw [List.length_dropLast]; lia) hb
        fun os' er' a1 a2 a3 a4 => h os' er' a1 a2 a3 (Keep.trans ((Keep.refl hp [s, e]).set (.head _)) a4)
    · rw [show eU D = D from if_neg (fun q => h13 (Option.some.inj (hc.symm.trans q.2))), show fm D = [] from if_neg (fun q => h13 (Option.some.inj (hc.symm.trans q.2)))] at h
      refine bA (cX (eB (be (p := false) (af lk0) aA (congrArg some (decide_eq_false (by lia)))) (eB (ox lk0 ?_) n8)) ?_)
      · rw [Bool.and_eq_false_iff, decide_eq_false_iff_not, decide_eq_false_iff_not]; lia
      · refine ar (ar ?_)
        exact iE (lk rfl hself) (lk rfl hdata) hs hrm he hD hb h
  · have cl := cl false (congrArg some (decide_eq_false (show ¬ (1 : Int) < D.length by lia)))
    rw [show eU D = D from if_neg (fun q => hl q.1), show fm D = [] from if_neg (fun q => hl q.1)] at h
    exact cX cl (ar (iE hself hdata hs hrm he hD hb h))
theorem ji {os : List AO} {s : Nat} {m nl ds er b : AV} {c : List Nat} {sz off pl pc : Int} {o : Nat} {k : AV → List AO → Prop} (hi : os[s]? = some (.inst 166 (Sfs m nl ds er b c sz off pl pc))) (h1 : o ≤ c.length)
    (h : k (.obj os.length) (os ++ [.tup [.int (bv (pl, pc) (c.take o)).1, .int (bv (pl, pc) (c.take o)).2]])) : F.uposition [.obj s, .int o] os k := by
  refine ot hi (by lia) (by lia) ?_
  have e := q9 pl pc (o : Int) c (by lia) (by lia)
  rw [Int.toNat_natCast] at e ⊢
  rw [← e] at h
  exact h
theorem p0 (X : List Nat) (n : Nat) (hX : X.length ≤ 9000) : sl (some (n : Int)) (some ((n : Int) + 10240)) X = X.drop n := by
  have h := ki X n (n + 10240)
  rw [List.take_of_length_le (by lia)] at h
  exact h
theorem mY {q : List AO} {loc : List (Nat × AV)} {s rm x e n : Nat} {nl : AV} {bl X D : List Nat} {pl pc : Int} {er : List AV} {k : AV → List AO → Prop} (hself : ag N.a loc = some (.obj s)) (hcs : ag N.w loc = some (.int 10240))
    (hs : q[s]? = some (.inst 166 (Sfs (.obj rm) nl (.obj x) (.obj e) (gL bl) [] 0 0 pl pc))) (hrm : q[rm]? = some (.meth 148 (.obj s))) (hx : q[x]? = some (.inst 73 (Xfs X n))) (he : q[e]? = some (.list er)) (hsx : s ≠ x)
    (hD : bl ++ X.drop n = D) (hbl : bl = [] ∨ bl = [13]) (hn : n ≤ X.length) (hX : X.length ≤ 9000) (hb : er.length ≤ 30000) (hsur : ∀ c ∈ X, c < 55296 ∨ 56319 < c)
    (h0 : D = [] → ∀ os', os'[s]? = some (.inst 166 (Sfs (.obj rm) nl (.obj x) (.obj e) (gL []) [] 0 0 pl pc)) → os'[x]? = some (.inst 73 (Xfs X X.length)) → Keep q os' [s, x] → k (.bool false) os')
    (h1 : D ≠ [] → ∀ os' er', os'[s]? = some (.inst 166 (Sfs (.obj rm) nl (.obj x) (.obj e) (gL (fm D)) (bp (eU D)) (bp (eU D)).length 0 pl pc)) → os'[x]? = some (.inst 73 (Xfs X X.length)) →
      os'[e]? = some (.list er') → er'.length ≤ er.length + (eU D).length → Keep q os' [s, x, e] → k (.bool true) os') : T.rc1b ⟨loc, q⟩ (gK k) := by
  have hxe := aP hx he (by simp)
  have hxs := hsx.symm
  have m2 : cw 73 N.bj cr = some 70 := by kernel_rfl
  refine rM (fj (aV (af hself) hs g5 rfl rfl) hx rfl m2 (bi (af hcs)) (mT hx (by lia) ?_))
  rw [p0 X n hX, show (n : Int) + (X.drop n).length = X.length by rw [List.length_drop]; lia]
  have hdl : (X.drop n).length ≤ 9000 := by rw [List.length_drop]; lia
  have hs3 : (q.set x (.inst 73 (Xfs X X.length)))[s]? = some (.inst 166 (Sfs (.obj rm) nl (.obj x) (.obj e) (gL bl) [] 0 0 pl pc)) := (aM hxs).trans hs
  have hx3 : (q.set x (.inst 73 (Xfs X X.length)))[x]? = some (.inst 73 (Xfs X X.length)) := aQ (ax hx)
  have k3 : Keep q (q.set x (.inst 73 (Xfs X X.length))) [s, x] := (Keep.refl q [s, x]).set (.tail _ (.head _))
  have he3 : (q.set x (.inst 73 (Xfs X X.length)))[e]? = some (.list er) := (aM hxe).trans he
  have hr3 : (q.set x (.inst 73 (Xfs X X.length)))[rm]? = some (.meth 148 (.obj s)) := (aM (aP hx hrm (by simp))).trans hrm
  have s3 : ∀ j ∈ [s, x], j ∈ [s, x, e] := oh (.head _) (.tail _ (.head _))
  have s4 : ∀ j ∈ [s, e], j ∈ [s, x, e] := oh (.head _) (.tail _ (.tail _ (.head _)))
  generalize q.set x (.inst 73 (Xfs X X.length)) = q' at hs3 hx3 k3 he3 hr3 ⊢
  rcases hbl with rfl | rfl
  · obtain rfl : X.drop n = D := hD
    refine cX (eA (aV (af (lk rfl hself)) hs3 g4 rfl rfl) rfl) ?_
    cases hd : X.drop n with
    | nil => exact bA (cS (n7 (eA (p := false) (af lk0) rfl)) (bA (eQ aA (h0 hd q' hs3 hx3 k3))))
    | cons c r =>
      rw [hd] at hdl
      refine bA (cX (n7 (eA (p := true) (af lk0) (pO (by lia)))) (ar (ar ?_)))
      rw [hd] at h1
      refine kI (D := c :: r) (lk rfl hself) lk0 hs3 hr3 he3 (by lia) hb (List.cons_ne_nil _ _) (fun d hm => hsur d (List.mem_of_mem_drop (hd ▸ hm))) fun os' er' q1 q2 q3 q4 => ?_
      exact h1 (List.cons_ne_nil _ _) os' er' q1 (q4.at hx3 (ly hxs hxe)) q2 q3 ((k3.sub s3).trans (q4.sub s4))
  · refine cS (eA (aV (af (lk rfl hself)) hs3 g4 rfl rfl) rfl) ?_
    refine bA (aO (bR (dC (aV (af (lk rfl hself)) hs3 g4 rfl rfl) (af lk0) (ml (y := [13]) (by show 1 + _ ≤ _; lia)))) ?_)
    refine bA (aO (cy aA (af (lk rfl (lk rfl hself))) hs3 g4 rfl) (ar ?_))
    rw [hD]
    have hDl : D.length = 1 + (X.drop n).length := by rw [← hD]; exact Nat.add_comm _ _
    refine kI (D := D) (lk rfl (lk rfl hself)) lk0 (aQ (ax hs3)) ((aM (aP hs3 hr3 (by simp))).trans hr3) ((aM (aP hs3 he3 (by simp))).trans he3) (by lia) hb (by rw [← hD]; exact List.cons_ne_nil _ _) (fun d hm => ?_) fun os' er' q1 q2 q3 q4 => ?_
    · rw [← hD] at hm
      rcases List.mem_cons.mp hm with rfl | hm
      · exact .inl (by decide)
      · exact hsur d (List.mem_of_mem_drop hm)
    · exact h1 (by rw [← hD]; exact List.cons_ne_nil _ _) os' er' q1 (q4.at ((aM hsx).trans hx3) (ly hxs hxe)) q2 q3 (((k3.sub s3).set (.head _)).trans (q4.sub s4))
theorem iF {os : List AO} {s rm x e n : Nat} {nl : AV} {bl C X : List Nat} {off pl pc : Int} {er : List AV} {k : AV → List AO → Prop}
    (hs : os[s]? = some (.inst 166 (Sfs (.obj rm) nl (.obj x) (.obj e) (gL bl) C C.length off pl pc))) (hrm : os[rm]? = some (.meth 148 (.obj s))) (hx : os[x]? = some (.inst 73 (Xfs X n))) (he : os[e]? = some (.list er))
    (hbl : bl = [] ∨ bl = [13]) (hn : n ≤ X.length) (hX : X.length ≤ 9000) (hb : er.length ≤ 30000) (hsur : ∀ c ∈ X, c < 55296 ∨ 56319 < c)
    (h0 : bl ++ X.drop n = [] → ∀ os', os'[s]? = some (.inst 166 (Sfs (.obj rm) nl (.obj x) (.obj e) (gL []) [] 0 0 (bv (pl, pc) C).1 (bv (pl, pc) C).2)) → os'[x]? = some (.inst 73 (Xfs X X.length)) → Keep os os' [s, x] → k (.bool false) os')
    (h1 : bl ++ X.drop n ≠ [] → ∀ os' er', os'[s]? = some (.inst 166 (Sfs (.obj rm) nl (.obj x) (.obj e) (gL (fm (bl ++ X.drop n))) (bp (eU (bl ++ X.drop n))) (bp (eU (bl ++ X.drop n))).length 0 (bv (pl, pc) C).1 (bv (pl, pc) C).2)) → os'[x]? = some (.inst 73 (Xfs X X.length)) →
      os'[e]? = some (.list er') → er'.length ≤ er.length + (eU (bl ++ X.drop n)).length → Keep os os' [s, x, e] → k (.bool true) os') : F.readChunk [.obj s] os k := by
  have hse := aP hs he (by simp)
  have hsx : s ≠ x := aP hs hx fun q => by injection q with q1; exact absurd q1 (by decide)
  have m1 : cw 166 N.aH cr = some 119 := by kernel_rfl
  refine bW (loc := [(N.a, .obj s), (N.w, .none)]) rfl ?_
  rw [rN]
  refine cS (be (af rfl) aA rfl) (bA (aO (bR (q0 (af rfl) hs rfl)) (ar ?_)))
  refine qr (fj (af rfl) hs rfl m1 (bi (aV (af rfl) hs g1 rfl rfl)) (ji hs (Nat.le_refl _) ?_))
  rw [List.take_length]
  have hs1 : (os ++ [AO.tup [.int (bv (pl, pc) C).1, .int (bv (pl, pc) C).2]])[s]? = some (.inst 166 (Sfs (.obj rm) nl (.obj x) (.obj e) (gL bl) C C.length off pl pc)) := aT hs
  have hl1 := ax hs1
  refine qn (cF (bf rfl)) rfl (jQ (on (af rfl) hs1 f2 rfl) (jQ (pN (af rfl) hl1 f3 rfl) (oq ?_)))
  refine aO (iu aA (af rfl) hl1 f1 rfl) (aO (iu aA (af rfl) hl1 g1 rfl) (aO (iu aA (af rfl) hl1 g2 rfl) ?_))
  have k2 : Keep os ((os ++ [AO.tup [.int (bv (pl, pc) C).1, .int (bv (pl, pc) C).2]]).set s (.inst 166 (Sfs (.obj rm) nl (.obj x) (.obj e) (gL bl) [] 0 0 (bv (pl, pc) C).1 (bv (pl, pc) C).2))) [s, x] := ((Keep.refl os [s, x]).app).set (.head _)
  refine mY rfl rfl (aQ hl1) ((aM (aP hs hrm (by simp))).trans (aT hrm)) ((aM hsx).trans (aT hx)) ((aM hse).trans (aT he)) hsx rfl hbl hn hX hb hsur (fun q os' a1 a2 a3 => h0 q os' a1 a2 (k2.trans a3)) fun q os' er' a1 a2 a3 a4 a5 => h1 q os' er' a1 a2 a3 a4 ((k2.sub (oh (.head _) (.tail _ (.head _)))).trans a5)
noncomputable def Kp (O : Nat → Prop) (a b : List AO) : Prop := a.length ≤ b.length ∧ ∀ j, j < a.length → ¬ O j → b[j]? = a[j]?
theorem Kp.refl (O : Nat → Prop) (a : List AO) : Kp O a a := ⟨Nat.le_refl _, fun _ _ _ => rfl⟩
theorem Kp.trans {O : Nat → Prop} {a b c : List AO} (h : Kp O a b) (h' : Kp O b c) : Kp O a c := ⟨Nat.le_trans h.1 h'.1, fun j hj hn => (h'.2 j (Nat.lt_of_lt_of_le hj h.1) hn).trans (h.2 j hj hn)⟩
theorem Keep.kp {O : Nat → Prop} {a b : List AO} {L : List Nat} (h : Keep a b L) (hL : ∀ j ∈ L, O j) : Kp O a b := ⟨h.1, fun j hj hn => h.2 j hj fun hm => hn (hL j hm)⟩
theorem Kp.at {O : Nat → Prop} {a b : List AO} {j : Nat} {X : AO} (h : Kp O a b) (hj : a[j]? = some X) (hn : ¬ O j) : b[j]? = some X := (h.2 j (ax hj) hn).trans hj
theorem Kp.sub {O O' : Nat → Prop} {a b : List AO} (h : Kp O a b) (hs : ∀ j, O j → O' j) : Kp O' a b := ⟨h.1, fun j hj hn => h.2 j hj fun q => hn (hs j q)⟩
theorem Kp.app (O : Nat → Prop) (a r : List AO) : Kp O a (a ++ r) := ⟨by rw [List.length_append]; lia, fun j hj _ => List.getElem?_append_left hj⟩
theorem Kp.set {O : Nat → Prop} {a : List AO} {i : Nat} {X : AO} (h : O i) : Kp O a (a.set i X) := ⟨by rw [List.length_set]; exact Nat.le_refl _, fun j _ hn => aM fun q => hn (q ▸ h)⟩
structure Ss where
  pos : Int × Int
  rem : List Nat
  H : List (Nat × (Int × Int))
  one : Bool
noncomputable def Agr (p : Int × Int) : List Nat → List (Nat × (Int × Int)) → Prop
  | _, [] => True
  | C, (c, q) :: H => C = [] ∨ ∃ C0, C = C0 ++ [c] ∧ bv p C0 = q ∧ Agr p C0 H
theorem Agr.nil (p : Int × Int) (H : List (Nat × (Int × Int))) : Agr p [] H := match H with
  | [] => trivial
  | (_, _) :: _ => .inl rfl
structure SVx (O : Nat → Prop) (os : List AO) (s : Nat) (S : Ss) (C1 C2 : List Nat) (pl pc : Int) (rm x e n : Nat) (nl : AV) (bl X : List Nat) (er : List AV) : Prop where
  hs : os[s]? = some (.inst 166 (Sfs (.obj rm) nl (.obj x) (.obj e) (gL bl) (C1 ++ C2) (C1 ++ C2).length C1.length pl pc))
  hrm : os[rm]? = some (.meth 148 (.obj s))
  hx : os[x]? = some (.inst 73 (Xfs X n))
  he : os[e]? = some (.list er)
  oS : O s
  oX : O x
  oE : O e
  oR : O rm
  hbl : bl = [] ∨ bl = [13]
  hn : n ≤ X.length
  hX : X.length ≤ 9000
  hC : (C1 ++ C2).length ≤ 9000
  hb : er.length + 2 * (bl ++ X.drop n).length ≤ 20000
  hsur : ∀ c ∈ X, c < 55296 ∨ 56319 < c
  rem : S.rem = C2 ++ bp (bl ++ X.drop n)
  pos : S.pos = bv (pl, pc) C1
  agr : Agr (pl, pc) C1 S.H
  one : S.one = true → C1 ≠ []
  siz : S.rem.length + S.H.length ≤ 9000
inductive SV (O : Nat → Prop) (os : List AO) (s : Nat) (S : Ss) : Prop
  | mk (C1 C2 : List Nat) (pl pc : Int) (rm x e n : Nat) (nl : AV) (bl X : List Nat) (er : List AV) (h : SVx O os s S C1 C2 pl pc rm x e n nl bl X er) : SV O os s S
theorem SVx.keep {O O' : Nat → Prop} {os os' : List AO} {s : Nat} {S : Ss} {C1 C2 : List Nat} {pl pc : Int} {rm x e n : Nat} {nl : AV} {bl X : List Nat} {er : List AV} (h : SVx O os s S C1 C2 pl pc rm x e n nl bl X er)
    (hk : Kp O' os os') (hd : ∀ j, O j → ¬ O' j) : SVx O os' s S C1 C2 pl pc rm x e n nl bl X er :=
  { h with hs := hk.at h.hs (hd _ h.oS), hrm := hk.at h.hrm (hd _ h.oR), hx := hk.at h.hx (hd _ h.oX), he := hk.at h.he (hd _ h.oE) }
theorem SV.keep {O O' : Nat → Prop} {os os' : List AO} {s : Nat} {S : Ss} (h : SV O os s S) (hk : Kp O' os os') (hd : ∀ j, O j → ¬ O' j) : SV O os' s S := by
  obtain ⟨C1, C2, pl, pc, rm, x, e, n, nl, bl, X, er, h⟩ := h
  exact ⟨C1, C2, pl, pc, rm, x, e, n, nl, bl, X, er, h.keep hk hd⟩
theorem mu (D : List Nat) : (eU D).length + (fm D).length = D.length ∧ (fm D).length ≤ D.length := by
  unfold eU fm
  split
  · rename_i h
    rw [List.length_dropLast]; simp; lia
  · simp
theorem ra {D : List Nat} (h : D ≠ []) : eU D ≠ [] := by
  intro q
  have := mu D
  rw [q] at this
  unfold fm at this
  have hp := List.length_pos_iff.mpr h
  split at this
  · rename_i h2
    simp at this; lia
  · simp at this; lia
theorem kJ (D : List Nat) : bp (eU D) ++ bp (fm D) = bp D := by
  unfold eU fm
  split
  · rename_i h
    have e : D = D.dropLast ++ [13] := by
      have hne : D ≠ [] := fun q => by rw [q] at h; cases h.2
      have h2 := h.2
      rw [List.getLast?_eq_some_getLast hne] at h2
      have := List.dropLast_concat_getLast hne
      rw [Option.some.inj h2] at this
      exact this.symm
    conv => rhs; rw [e, pU]
    rfl
  · show bp D ++ [] = _; simp
theorem rb (D : List Nat) : fm D = [] ∨ fm D = [13] := by unfold fm; split <;> simp
section
variable {O : Nat → Prop} {os : List AO} {s : Nat} {S : Ss} {C1 C2 : List Nat} {pl pc : Int} {rm x e n : Nat} {nl : AV} {bl X : List Nat} {er : List AV} {k : AV → List AO → Prop}
theorem SVx.sx (h : SVx O os s S C1 C2 pl pc rm x e n nl bl X er) : s ≠ x := aP h.hs h.hx fun q => by injection q with q1; exact absurd q1 (by decide)
theorem SVx.upd (h : SVx O os s S C1 C2 pl pc rm x e n nl bl X er) {S' : Ss} {D1 D2 : List Nat} {ql qc : Int} {fs : List (Nat × AV)} (hs : fs = Sfs (.obj rm) nl (.obj x) (.obj e) (gL bl) (D1 ++ D2) (D1 ++ D2).length D1.length ql qc) (hC : (D1 ++ D2).length ≤ 9000)
    (rem : S'.rem = D2 ++ bp (bl ++ X.drop n)) (pos : S'.pos = bv (ql, qc) D1) (agr : Agr (ql, qc) D1 S'.H) (one : S'.one = true → D1 ≠ []) (siz : S'.rem.length + S'.H.length ≤ 9000) : SVx O (os.set s (.inst 166 fs)) s S' D1 D2 ql qc rm x e n nl bl X er :=
  { h with hs := hs ▸ aQ (ax h.hs), hrm := (aM (aP h.hs h.hrm (by simp))).trans h.hrm, hx := (aM h.sx).trans h.hx, he := (aM (aP h.hs h.he (by simp))).trans h.he, hC := hC, rem := rem, pos := pos, agr := agr, one := one, siz := siz }
theorem fx (h : SVx O os s S C1 C2 pl pc rm x e n nl bl X er)
    (h0 : bp (bl ++ X.drop n) = [] → ∀ os' bl' X' n' pl' pc' er', Kp O os os' → SVx O os' s ⟨bv (pl, pc) (C1 ++ C2), bp (bl ++ X.drop n), S.H, false⟩ [] [] pl' pc' rm x e n' nl bl' X' er' → k (.bool false) os')
    (h1 : ∀ C bl' X' n' pl' pc' er', C ≠ [] → ∀ os', Kp O os os' → SVx O os' s ⟨bv (pl, pc) (C1 ++ C2), bp (bl ++ X.drop n), S.H, false⟩ [] C pl' pc' rm x e n' nl bl' X' er' → k (.bool true) os') : F.readChunk [.obj s] os k := by
  have hb := h.hb
  have hsz : (bp (bl ++ X.drop n)).length + S.H.length ≤ 9000 := by
    have := h.siz
    rw [h.rem, List.length_append] at this
    lia
  have n1 := aP h.hrm h.hs (by simp)
  have n2 := aP h.hrm h.hx (by simp)
  refine iF h.hs h.hrm h.hx h.he h.hbl h.hn h.hX (by lia) h.hsur (fun hD os' a1 a2 a3 => ?_) (fun hD os' er' a1 a2 a3 a4 a5 => ?_)
  · refine h0 (by rw [hD]; rfl) os' [] X X.length _ _ er (a3.kp (oh h.oS h.oX)) { h with hs := a1, hrm := a3.at h.hrm (ly n1 n2), hx := a2, he := a3.at h.he (ly (aP h.he h.hs (by simp)) (aP h.he h.hx (by simp))), hbl := .inl rfl, hn := Nat.le_refl _, hC := Nat.zero_le _, hb := ?_, rem := ?_, pos := rfl, agr := Agr.nil _ _, one := fun q => Bool.noConfusion q, siz := hsz }
    · rw [List.drop_length]; show er.length + 2 * 0 ≤ _; lia
    · rw [hD, List.drop_length]; rfl
  · have hcl := mu (bl ++ X.drop n)
    refine h1 (bp (eU (bl ++ X.drop n))) (fm (bl ++ X.drop n)) X X.length _ _ er' (pV (ra hD)) os' (a5.kp (sT h.oS h.oX h.oE)) { h with hs := a1, hrm := a5.at h.hrm (sS n1 n2 (aP h.hrm h.he (by simp))), hx := a2, he := a3, hbl := rb _, hn := Nat.le_refl _, hC := ?_, hb := ?_, rem := ?_, pos := rfl, agr := Agr.nil _ _, one := fun q => Bool.noConfusion q, siz := hsz }
    · rw [← kJ, List.length_append] at hsz
      show (bp _).length ≤ _; lia
    · rw [List.drop_length, List.append_nil]; lia
    · rw [List.drop_length, List.append_nil, kJ]
theorem SVx.cast {S' : Ss} (h : SVx O os s S' C1 C2 pl pc rm x e n nl bl X er) (q : S' = S) : SVx O os s S C1 C2 pl pc rm x e n nl bl X er := q ▸ h
theorem jX (h : SVx O os s S C1 [] pl pc rm x e n nl bl X er)
    (h0 : S.rem = [] → ∀ os' bl' X' n' pl' pc' er', Kp O os os' → SVx O os' s { S with one := false } [] [] pl' pc' rm x e n' nl bl' X' er' → k (.bool false) os')
    (h1 : ∀ C bl' X' n' pl' pc' er', C ≠ [] → ∀ os', Kp O os os' → SVx O os' s { S with one := false } [] C pl' pc' rm x e n' nl bl' X' er' → k (.bool true) os') : F.readChunk [.obj s] os k :=
  have e : (⟨bv (pl, pc) (C1 ++ []), bp (bl ++ X.drop n), S.H, false⟩ : Ss) = { S with one := false } := by rw [List.append_nil, ← h.pos, ← List.nil_append (bp _), ← h.rem]
  fx h (fun q os' bl' X' n' pl' pc' er' hk w => h0 (h.rem.trans q) os' bl' X' n' pl' pc' er' hk (w.cast e)) fun C bl' X' n' pl' pc' er' hC os' hk w => h1 C bl' X' n' pl' pc' er' hC os' hk (w.cast e)
end
noncomputable def T.ch2 : TS :=
  (ae (aR N.r (ak N.r (aa N.a)))
  (ae (aR N.u (aU tb (ak N.z (aa N.a)) (aa N.r)))
  (ae (ah N.r (cA .Add (aa N.r) (ad (.int 1))) (aa N.a))
  (ae (ay (aa N.u))
  aj))))
noncomputable def T.ch1 : TS :=
  (ae (aIf (aq tb .GtE (ak N.r (aa N.a)) (ak N.w (aa N.a))) (ae (aIf (jw (bY tb (aI N.aD 141 F.readChunk (aa N.a) []))) (ae (ay (ad (.none)))
  aj) aj)
  aj) aj)
  T.ch2)
theorem rO : T.char = T.ch1 := rfl
section
variable {O : Nat → Prop} {os : List AO} {s : Nat} {S : Ss} {C1 C2 : List Nat} {pl pc : Int} {rm x e n : Nat} {nl : AV} {bl X : List Nat} {er : List AV} {k : AV → List AO → Prop}
theorem SVx.drop (h : SVx O os s S C1 C2 pl pc rm x e n nl bl X er) : SV O os s S := ⟨C1, C2, pl, pc, rm, x, e, n, nl, bl, X, er, h⟩
theorem kK {loc : List (Nat × AV)} {c : Nat} {C : List Nat} (hself : ag N.a loc = some (.obj s)) (h : SVx O os s S C1 (c :: C) pl pc rm x e n nl bl X er)
    (hk : ∀ os', Kp O os os' → SV O os' s ⟨adv S.pos c, C ++ bp (bl ++ X.drop n), (c, S.pos) :: S.H, true⟩ → k (.str [c]) os') : T.ch2 ⟨loc, os⟩ (gK k) := by
  have hC := h.hC
  have ec : (C1 ++ [c]) ++ C = C1 ++ c :: C := by rw [List.append_assoc]; rfl
  have el : (C1 ++ [c]).length = C1.length + 1 := List.length_append
  have e1 : C1.length < (C1 ++ c :: C).length := by rw [← ec, List.length_append, el]; exact Nat.lt_of_lt_of_le (Nat.lt_succ_self _) (Nat.le_add_right _ _)
  have e2 : (C1 ++ c :: C)[C1.length]? = some c := by rw [List.getElem?_append_right (Nat.le_refl _), Nat.sub_self]; rfl
  have e3 : Nat.ble (C1 ++ c :: C).length 1000000 = true := Nat.ble_eq_true_of_le (by lia)
  refine aO (bR (aV (af hself) h.hs g2 rfl rfl)) ?_
  refine aO (bR (ey (aV (af (lk rfl hself)) h.hs f1 rfl rfl) (af lk0) (gb e3 (ff e1) e2))) ?_
  refine aO (cy (dC (af (lk rfl lk0)) aA rfl) (af (lk rfl (lk rfl hself))) h.hs g2 rfl) ?_
  refine eQ (af lk0) (hk _ (Kp.set h.oS) (h.upd (S' := ⟨adv S.pos c, C ++ bp (bl ++ X.drop n), (c, S.pos) :: S.H, true⟩) (D1 := C1 ++ [c]) (D2 := C) (ql := pl) (qc := pc) ?_ (by rw [ec]; exact hC) rfl ?_ (Or.inr ⟨C1, rfl, h.pos.symm, h.agr⟩) (fun _ q => by rw [q] at el; cases el) ?_).drop)
  · rw [ec, el]; rfl
  · rw [cW, ← h.pos]
  · have := h.siz
    rw [h.rem] at this
    exact Nat.le_trans (Nat.le_of_eq (Nat.succ_add _ _).symm) this
theorem p3 (h : SV O os s S)
    (h0 : S.rem = [] → ∀ os', Kp O os os' → SV O os' s { S with one := false } → k .none os')
    (h1 : ∀ c r, S.rem = c :: r → ∀ os', Kp O os os' → SV O os' s ⟨adv S.pos c, r, (c, S.pos) :: S.H, true⟩ → k (.str [c]) os') : F.char [.obj s] os k := by
  obtain ⟨C1, C2, pl, pc, rm, x, e, n, nl, bl, X, er, h⟩ := h
  refine bW (loc := [(N.a, .obj s)]) rfl ?_
  have m1 : cw 166 N.aD cr = some 141 := by kernel_rfl
  rw [rO]
  have cl := fun p => be (co := .GtE) (p := p) (aV (af (st := ⟨[(N.a, .obj s)], os⟩) (x := N.a) rfl) h.hs g2 rfl rfl) (aV (af (x := N.a) rfl) h.hs g1 rfl rfl)
  cases C2 with
  | nil =>
    refine cS (cl _ (congrArg some (decide_eq_true (Int.ofNat_le.mpr (by rw [List.append_nil]; exact Nat.le_refl _))))) (bA (gI (qo (oi (fj (af rfl) h.hs rfl m1 dz (jX h (fun hr os' bl' X' n' pl' pc' er' hk q => h0 hr os' hk q.drop) fun C bl' X' n' pl' pc' er' hC os' hk q => ?_))))))
    show T.ch2 ⟨[(N.a, .obj s)], os'⟩ (gK k)
    cases C with
    | nil => exact absurd rfl hC
    | cons c C => exact kK rfl q fun os2 hk2 q2 => h1 c _ q.rem os2 (hk.trans hk2) q2
  | cons c C =>
    refine cX (cl _ (congrArg some (decide_eq_false (fun q => ?_)))) (ar (kK rfl h fun os2 hk2 q2 => h1 c _ h.rem os2 hk2 q2))
    have q := Int.ofNat_le.mp q
    rw [List.length_append, List.length_cons] at q
    lia
theorem iG (h : k .none os) : F.unget [.obj s, .none] os k := bW (loc := [(N.a, .obj s), (N.u, .none)]) rfl h
theorem kL {c : Nat} {q : Int × Int} {H : List (Nat × (Int × Int))} (h : SV O os s S) (hH : S.H = (c, q) :: H)
    (hk : ∀ os' p, Kp O os os' → (S.one = true → p = q) → SV O os' s ⟨p, c :: S.rem, H, false⟩ → k .none os') : F.unget [.obj s, .str [c]] os k := by
  obtain ⟨C1, C2, pl, pc, rm, x, e, n, nl, bl, X, er, h⟩ := h
  refine bW (loc := [(N.a, .obj s), (N.u, .str [c])]) rfl ?_
  have hl := ax h.hs
  have hagr := h.agr
  rw [hH] at hagr
  have hsz := h.siz
  rw [hH, List.length_cons] at hsz
  have hsz' : (c :: S.rem).length + H.length ≤ 9000 := Nat.le_trans (Nat.le_of_eq (Nat.succ_add _ _)) hsz
  have hC := h.hC
  have hrem := h.rem
  refine cS (be (af rfl) aA rfl) ?_
  rcases hagr with rfl | ⟨C0, rfl, hq, hA⟩
  · have hl2 : S.rem.length = C2.length + (bp (bl ++ X.drop n)).length := by rw [hrem, List.length_append]
    refine bA (cS (be (aV (af rfl) h.hs g2 rfl rfl) aA rfl) (bA (aO (cy (dC (af rfl) (aV (af rfl) h.hs f1 rfl rfl) (ml ?_)) (af rfl) h.hs f1 rfl) (bA (aO (og (af rfl) hl g1 rfl rfl aA rfl rfl) ?_)))))
    · show 1 + C2.length ≤ _; lia
    · refine hk _ (pl, pc) (Kp.set h.oS) (fun q => absurd rfl (h.one q)) (h.upd (S' := ⟨(pl, pc), c :: S.rem, H, false⟩) (D1 := []) (D2 := c :: C2) (ql := pl) (qc := pc) ?_ ?_ (congrArg (c :: ·) hrem) rfl (Agr.nil _ _) (fun q => Bool.noConfusion q) hsz').drop
      · rfl
      · show C2.length + 1 ≤ _; lia
  · have ec : (C0 ++ [c]) ++ C2 = C0 ++ c :: C2 := by rw [List.append_assoc]; rfl
    have el : (C0 ++ [c]).length = C0.length + 1 := List.length_append
    have e0 : ((C0 ++ [c]).length : Int) - 1 = C0.length := by rw [el]; exact Int.add_sub_cancel (C0.length : Int) 1
    have e1 : idx (((C0 ++ [c]).length : Int) - 1) (C0 ++ [c] ++ C2).length = some C0.length := by rw [e0]; exact ff (by rw [List.length_append, el]; lia)
    have e2 : (C0 ++ [c] ++ C2)[C0.length]? = some c := by rw [ec, List.getElem?_append_right (Nat.le_refl _), Nat.sub_self]; rfl
    have e3 : Nat.ble (C0 ++ [c] ++ C2).length 1000000 = true := Nat.ble_eq_true_of_le (by lia)
    refine bA (cX (be (aV (af rfl) h.hs g2 rfl rfl) aA (congrArg some (decide_eq_false (fun q => by rw [el] at q; cases q)))) (bA (aO (jN (os2 := os) (af rfl) h.hs g2 rfl rfl aA rfl h.hs rfl) (bA (aO (mS (be (ey (aV (af rfl) (aQ hl) f1 rfl rfl) (aV (af rfl) (aQ hl) g2 rfl rfl) (gb e3 e1 e2)) (af rfl) (congrArg some (decide_eq_true rfl)))) ?_)))))
    refine hk _ q (Kp.set h.oS) (fun _ => rfl) (h.upd (S' := ⟨q, c :: S.rem, H, false⟩) (D1 := C0) (D2 := c :: C2) (ql := pl) (qc := pc) ?_ (ec ▸ hC) (congrArg (c :: ·) hrem) hq.symm hA (fun q => Bool.noConfusion q) hsz').drop
    rw [← ec, ← e0]; rfl
theorem kM (h : SV O os s S) (hk : ∀ os', Kp O os os' → SV O os' s S → os'[os.length + 1]? = some (.tup [.int (S.pos.1 + 1), .int S.pos.2]) → os'.length = os.length + 2 → k (.obj (os.length + 1)) os') : F.position [.obj s] os k := by
  obtain ⟨C1, C2, pl, pc, rm, x, e, n, nl, bl, X, er, h⟩ := h
  have m1 : cw 166 N.aH cr = some 119 := by kernel_rfl
  have et : (C1 ++ C2).take C1.length = C1 := List.take_left
  refine bW (loc := [(N.a, .obj s)]) rfl (qr (fj (af rfl) h.hs rfl m1 (bi (aV (af rfl) h.hs g2 rfl rfl)) (ji h.hs (by rw [List.length_append]; exact Nat.le_add_right _ _) ?_)))
  rw [et, ← h.pos]
  refine qn (cF (bf rfl)) rfl (jQ oo (jQ oo (oq (eQ (dW (bI (dC (af rfl) aA rfl) (bi (af rfl))) rfl) ?_))))
  show k (.obj (os ++ [AO.tup [.int S.pos.1, .int S.pos.2]]).length) _
  have el : (os ++ [AO.tup [.int S.pos.1, .int S.pos.2]]).length = os.length + 1 := List.length_append
  have kp : Kp O os (os ++ [AO.tup [.int S.pos.1, .int S.pos.2]] ++ [AO.tup [.int (S.pos.1 + 1), .int S.pos.2]]) := (Kp.app O _ _).trans (Kp.app O _ _)
  rw [el]
  exact hk _ kp (h.keep (O' := fun _ => False) ((Kp.app _ _ _).trans (Kp.app _ _ _)) fun _ _ q => q).drop (bf el.symm) (by rw [List.length_append, el]; rfl)
end
noncomputable def T.cu1 : TS :=
  (dU (du (aq tb .NotEq (aa N.f) (ak N.w (aa N.a))) (du (aq tb .Eq (dR tb .In (aU tb (ak N.z (aa N.a)) (aa N.f)) (aa N.ag)) (aa N.ai)) (aB true))) (ae (c8 N.f .Add (ad (.int 1)))
  aj))
noncomputable def T.cu3 : TS :=
  (ae (aK (aBM 2 bP (aa N.J) [(dG (ak N.z (aa N.a)) (some (ak N.r (aa N.a))) none)]))
  (ae (aIf (jw (bY tb (aI N.aD 141 F.readChunk (aa N.a) []))) (ae (hJ .brk)
  aj) aj)
  aj))
noncomputable def T.cu2 : TS :=
  (ae (aR N.f (ak N.r (aa N.a)))
  (ae T.cu1
  (ae (aIf (aq tb .Eq (aa N.f) (ak N.r (aa N.a))) (ae (aIf (aq tb .NotEq (ak N.r (aa N.a)) (ak N.w (aa N.a))) (ae (hJ .brk)
  aj) aj)
  aj) (ae (aIf (aq tb .NotEq (aa N.f) (ak N.w (aa N.a))) (ae (aK (aBM 2 bP (aa N.J) [(dG (ak N.z (aa N.a)) (some (ak N.r (aa N.a))) (some (aa N.f)))]))
  (ae (ah N.r (aa N.f) (aa N.a))
  (ae (hJ .brk)
  aj))) aj)
  aj))
  T.cu3)))
noncomputable def T.cu0 : TS :=
  (ae (aR N.J (cx []))
  (ae (dU (bY tb (ad (.bool true))) T.cu2)
  (ae (aR N.au (aBM 1 d6 (ad (.str [])) [(aa N.J)]))
  (ae (ay (aa N.au))
  aj))))
theorem rP : T.charsUntil = T.cu0 := rfl
section
variable {O : Nat → Prop} {os : List AO} {s : Nat} {S : Ss} {C1 C2 : List Nat} {pl pc : Int} {rm x e n : Nat} {nl : AV} {bl X : List Nat} {er : List AV}
inductive Cw (f : Nat → Bool) (loc : List (Nat × AV)) (os : List AO) (C1 C2 : List Nat) (n : Nat) (st : St) : Prop
  | mk (D R : List Nat) (loc' : List (Nat × AV)) (e0 : st = ⟨loc', os⟩) (e1 : C2 = D ++ R) (e2 : C2.takeWhile f = D ++ R.takeWhile f) (h1 : ∀ m, m ≠ N.f → ag m loc' = ag m loc) (h2 : ag N.f loc' = some (.int (C1.length + D.length : Nat))) (hn : n = R.length) : Cw f loc os C1 C2 n st
theorem oz {loc : List (Nat × AV)} {chars : AV} {opp : Bool} {P : Nat → Bool} {k : AF → St → Prop} (h : SVx O os s S C1 C2 pl pc rm x e n nl bl X er) (hself : ag N.a loc = some (.obj s)) (hch : ag N.ag loc = some chars) (hop : ag N.ai loc = some (.bool opp))
    (hend : ag N.f loc = some (.int C1.length)) (hP : ∀ c, bz tb os .In (.str [c]) chars = some (P c))
    (hk : ∀ loc', (∀ m, m ≠ N.f → ag m loc' = ag m loc) → ag N.f loc' = some (.int (C1.length + (C2.takeWhile fun c => decide (P c = opp)).length : Nat)) → k .next ⟨loc', os⟩) : T.cu1 ⟨loc, os⟩ k := by
  have hC := h.hC
  refine ⟨Cw (fun c => decide (P c = opp)) loc os C1 C2, ⟨_, [], C2, loc, rfl, rfl, rfl, fun _ _ => rfl, hend, rfl⟩, ?_⟩
  rintro n st ⟨D, R, loc', rfl, e1, e2, h1, h2, hn⟩
  have hself' : ag N.a loc' = some (.obj s) := (h1 _ (by decide)).trans hself
  have c1 := fun p => be (co := .NotEq) (p := p) (af (st := ⟨loc', os⟩) h2) (aV (af hself') h.hs g1 rfl rfl)
  have fin : R.takeWhile (fun c => decide (P c = opp)) = [] → k .next ⟨loc', os⟩ := fun q => by
    rw [q, List.append_nil] at e2
    exact hk loc' h1 (by rw [e2]; exact h2)
  have el : (C1 ++ C2).length = C1.length + D.length + R.length := by rw [List.length_append, e1, List.length_append, Nat.add_assoc]
  cases R with
  | nil => exact (f7 (c1 _ (congrArg (fun b => some (!b)) (decide_eq_true (congrArg Int.ofNat el.symm))))).run (fin rfl)
  | cons c r =>
    have e3 : Nat.ble (C1 ++ C2).length 1000000 = true := Nat.ble_eq_true_of_le (by lia)
    have e4 : (C1 ++ C2)[C1.length + D.length]? = some c := by rw [e1, ← List.append_assoc, ← List.length_append, List.getElem?_append_right (Nat.le_refl _), Nat.sub_self]; rfl
    have hlt : C1.length + D.length < (C1 ++ C2).length := by rw [el]; exact Nat.lt_add_of_pos_right (Nat.succ_pos _)
    have c2 := fun p hp => be (st := ⟨loc', os⟩) (co := .Eq) (p := p) (qX (ey (aV (af hself') h.hs f1 rfl rfl) (af h2) (gb e3 (ff hlt) e4)) (af ((h1 _ (by decide)).trans hch)) (hP c)) (af (st := ⟨loc', os⟩) ((h1 _ (by decide)).trans hop)) hp
    refine qp (c1 _ (congrArg (fun b => some (!b)) (decide_eq_false fun q => Nat.ne_of_lt hlt (Int.ofNat.inj q)))) ?_
    cases hd : decide (P c = opp) with
    | true =>
      refine (kx (c2 true (congrArg some hd)) n8).run ?_
      refine aO (jM h2 aA rfl) ⟨r.length, by rw [hn]; exact Nat.lt_succ_self _, D ++ [c], r, _, rfl, by rw [List.append_assoc]; exact e1, ?_, fun m hm => (cH _ hm _).trans (h1 m hm), ?_, rfl⟩
      · rw [e2, List.append_assoc, List.takeWhile_cons, hd]; rfl
      · rw [am, List.length_append, ← Nat.add_assoc]; rfl
    | false =>
      refine (f7 (c2 false (congrArg some hd))).run (fin ?_)
      rw [List.takeWhile_cons, hd]; rfl
variable {k : AV → List AO → Prop}
theorem oA {loc : List (Nat × AV)} {r : Nat} {ps : List AV} {K : AF → St → Prop} (h : SVx O os s S C1 C2 pl pc rm x e n nl bl X er) (hself : ag N.a loc = some (.obj s)) (hrv : ag N.J loc = some (.obj r)) (hr : os[r]? = some (.list ps)) (hor : ¬ O r) (hps : ps.length ≤ 50000)
    (h0 : bp (bl ++ X.drop n) = [] → ∀ os', Kp (fun j => O j ∨ j = r) os os' → os'[r]? = some (.list (ps ++ [.str C2])) → SV O os' s ⟨bv (pl, pc) (C1 ++ C2), [], S.H, false⟩ → K .brk ⟨loc, os'⟩)
    (h1 : ∀ C bl' X' n' pl' pc' er', C ≠ [] → ∀ os', Kp (fun j => O j ∨ j = r) os os' → os'[r]? = some (.list (ps ++ [.str C2])) → SVx O os' s ⟨bv (pl, pc) (C1 ++ C2), bp (bl ++ X.drop n), S.H, false⟩ [] C pl' pc' rm x e n' nl bl' X' er' → K .next ⟨loc, os'⟩) : T.cu3 ⟨loc, os⟩ K := by
  have hC := h.hC
  have e3 : Nat.ble (C1 ++ C2).length 1000000 = true := Nat.ble_eq_true_of_le (by lia)
  have h' : SVx O (os.set r (.list (ps ++ [.str C2]))) s S C1 C2 pl pc rm x e n nl bl X er := h.keep (O' := fun j => j = r) (Kp.set rfl) fun j hj q => hor (q ▸ hj)
  have m1 : cw 166 N.aD cr = some 141 := by kernel_rfl
  have kp1 : Kp (fun j => O j ∨ j = r) os (os.set r (.list (ps ++ [.str C2]))) := Kp.set (.inr rfl)
  have hr' : (os.set r (.list (ps ++ [.str C2])))[r]? = some (.list (ps ++ [.str C2])) := aQ (ax hr)
  refine aO (ir (af hrv) (eE (aV (af hself) h.hs f1 rfl rfl) (cV (aV (af hself) h.hs g2 rfl rfl)) fi (eF (u := some C1.length) (v := none) e3)) hr hr (by lia)) ?_
  rw [rA, List.drop_left]
  refine gI (qo (oi (fj (af hself) h'.hs rfl m1 dz (fx h' (fun hm os' bl' X' n' pl' pc' er' hk q => ?_) fun C bl' X' n' pl' pc' er' hC os' hk q => ?_))))
  · rw [hm] at q
    exact h0 hm os' (kp1.trans (hk.sub fun j q => .inl q)) (hk.at hr' hor) q.drop
  · exact h1 C bl' X' n' pl' pc' er' hC os' (kp1.trans (hk.sub fun j q => .inl q)) (hk.at hr' hor) q
end
theorem fL (ps : List (List Nat)) : fw ps = ps.flatten.length := by
  induction ps with
  | nil => rfl
  | cons a r ih => simp [fw, ih]
theorem jY (ps : List (List Nat)) : joi [] ps = ps.flatten := by
  unfold joi Txt.join
  induction ps with
  | nil => rfl
  | cons a r ih =>
    cases r with
    | nil => show a = _; simp
    | cons b r =>
      rw [List.map_cons, List.map_cons, fK, ← List.map_cons, ih]
      simp [txt]
theorem jZ {os : List AO} {i : Nat} {x : List Nat} {ps : List (List Nat)} {K : AV → List AO → Prop} (h : os[i]? = some (.list (ps.map .str))) (hw : fw ps + ps.length * x.length ≤ 1000000) (hK : K (.str (joi x ps)) os) : d6 [.str x, .obj i] os K := ⟨_, _, _, rfl, h, hw, hK⟩
section
variable {O : Nat → Prop} {os : List AO} {s : Nat} {S : Ss}
noncomputable def rQ (O : Nat → Prop) (os : List AO) (s r : Nat) (S : Ss) (f : Nat → Bool) (loc : List (Nat × AV)) (ps : List (List Nat)) (K : AF → St → Prop) : Prop :=
  ∀ loc' os' S' (ps' : List (List Nat)), ag N.J loc' = ag N.J loc → Kp (fun j => O j ∨ j = r) os os' → SV O os' s S' → os'[r]? = some (.list (ps'.map .str)) → ps'.flatten = ps.flatten ++ S.rem.takeWhile f → S'.rem = S.rem.dropWhile f → ps'.length ≤ ps.length + 1 → K .brk ⟨loc', os'⟩
theorem oB {loc : List (Nat × AV)} {r : Nat} {C1 C2 : List Nat} {pl pc : Int} {rm x e n : Nat} {nl : AV} {bl X : List Nat} {er : List AV} {ps : List (List Nat)} {chars : AV} {opp : Bool} {P : Nat → Bool} {f : Nat → Bool} {K : AF → St → Prop} (h : SVx O os s S C1 C2 pl pc rm x e n nl bl X er)
    (l1 : ag N.a loc = some (.obj s)) (l2 : ag N.ag loc = some chars) (l3 : ag N.ai loc = some (.bool opp)) (l4 : ag N.J loc = some (.obj r)) (hP : ∀ c, bz tb os .In (.str [c]) chars = some (P c)) (hf : (fun c => decide (P c = opp)) = f)
    (hr : os[r]? = some (.list (ps.map .str))) (hor : ¬ O r) (hps : ps.length ≤ 50000) (brk : rQ O os s r S f loc ps K)
    (nxt : C2.takeWhile f = C2 → ∀ loc', (∀ m, m ≠ N.f → ag m loc' = ag m loc) → ∀ C bl' X' n' pl' pc' er', C ≠ [] → ∀ os', Kp (fun j => O j ∨ j = r) os os' → os'[r]? = some (.list ((ps ++ [C2]).map .str)) → SVx O os' s ⟨bv (pl, pc) (C1 ++ C2), bp (bl ++ X.drop n), S.H, false⟩ [] C pl' pc' rm x e n' nl bl' X' er' → K .next ⟨loc', os'⟩) : T.cu2 ⟨loc, os⟩ K := by
  refine aO (bR (aV (af l1) h.hs g2 rfl rfl)) (oz (P := P) (opp := opp) (chars := chars) h (lk rfl l1) (lk rfl l2) (lk rfl l3) lk0 hP fun loc2 a1 a2 => ?_)
  rw [hf] at a2
  have a0 : ∀ m, m ≠ N.f → ag m loc2 = ag m loc := fun m hm => (a1 m hm).trans (cH _ hm _)
  have l1' : ag N.a loc2 = some (.obj s) := (a0 _ (by decide)).trans l1
  have l4' := (a0 N.J (by decide)).trans l4
  have c1 := fun p => be (co := .Eq) (p := p) (af (st := ⟨loc2, os⟩) a2) (aV (af l1') h.hs g2 rfl rfl)
  have c2 := fun p => be (co := .NotEq) (p := p) (aV (af (st := ⟨loc2, os⟩) l1') h.hs g2 rfl rfl) (aV (af l1') h.hs g1 rfl rfl)
  have c3 := fun p => be (co := .NotEq) (p := p) (af (st := ⟨loc2, os⟩) a2) (aV (af l1') h.hs g1 rfl rfl)
  have td := List.takeWhile_append_dropWhile (p := f) (l := C2)
  have eC : (C1 ++ C2).length = C1.length + C2.length := List.length_append
  cases hd : C2.dropWhile f with
  | nil =>
    rw [hd, List.append_nil] at td
    have fin : T.cu3 ⟨loc2, os⟩ K := by
      refine oA h l1' l4' hr hor (by rw [List.length_map]; exact hps) (fun hm os2 b1 b2 b3 => ?_) fun C bl2 X2 n2 pl2 pc2 er2 hC os2 b1 b2 b3 => nxt td loc2 a0 C bl2 X2 n2 pl2 pc2 er2 hC os2 b1 (by rw [b2, List.map_append]; rfl) b3
      refine brk loc2 os2 _ (ps ++ [C2]) (a0 _ (by decide)) b1 b3 (by rw [b2, List.map_append]; rfl) ?_ ?_ (by rw [List.length_append]; exact Nat.le_refl _)
      · rw [h.rem, hm, List.append_nil, td, List.flatten_append]; simp
      · rw [h.rem, hm, List.append_nil, hd]
    rw [td] at a2 c1 c3
    by_cases hz : C2 = []
    · exact cS (c1 _ (congrArg some (decide_eq_true (by rw [hz]; rfl)))) (bA (cX (c2 _ (congrArg (fun b => some (!b)) (decide_eq_true (by rw [hz, List.append_nil])))) (ar (ar fin))))
    · have := List.length_pos_iff.mpr hz
      exact cX (c1 _ (congrArg some (decide_eq_false fun q => by have := Int.ofNat.inj q; lia))) (bA (cX (c3 _ (congrArg (fun b => some (!b)) (decide_eq_true (congrArg Int.ofNat eC.symm)))) (ar (ar fin))))
  | cons c t =>
    rw [hd] at td
    have hlc : C2.length = (C2.takeWhile f).length + (t.length + 1) := by
      have := congrArg List.length td
      rw [List.length_append] at this; exact this.symm
    have w1 : S.rem.takeWhile f = C2.takeWhile f := by rw [h.rem, List.takeWhile_append, if_neg (by lia)]
    have w2 : S.rem.dropWhile f = c :: t ++ bp (bl ++ X.drop n) := by rw [h.rem, List.dropWhile_append, hd]; rfl
    have n2 : ((C1.length : Nat) : Int) ≠ ((C1 ++ C2).length : Nat) := fun q => by have := Int.ofNat.inj q; lia
    have n3 : ((C1.length + (C2.takeWhile f).length : Nat) : Int) ≠ ((C1 ++ C2).length : Nat) := fun q => by have := Int.ofNat.inj q; lia
    cases hz : C2.takeWhile f with
    | nil =>
      rw [hz] at a2 c1 w1 td
      refine cS (c1 _ (congrArg some (decide_eq_true rfl))) (bA (cS (c2 _ (congrArg (fun b => some (!b)) (decide_eq_false n2))) ?_))
      exact brk loc2 os S ps (a0 _ (by decide)) (Kp.refl _ _) h.drop hr (by rw [w1, List.append_nil]) (by rw [w2, h.rem, ← td]; rfl) (Nat.le_succ _)
    | cons d u =>
      rw [hz] at a2 c1 c3 w1 td n3 hlc
      have hrs : r ≠ s := fun q => hor (q ▸ h.oS)
      have hx2 : SVx O (os.set r (.list (ps.map AV.str ++ [.str (d :: u)]))) s S C1 C2 pl pc rm x e n nl bl X er := h.keep (O' := fun j => j = r) (Kp.set rfl) fun j hj q => hor (q ▸ hj)
      have esl : sl (some (C1.length : Int)) (some ((C1.length + (d :: u).length : Nat) : Int)) (C1 ++ C2) = d :: u := by
        rw [ki, ← td, ← List.append_assoc, List.take_append_of_le_length (by rw [List.length_append]; exact Nat.le_refl _), List.take_of_length_le (by rw [List.length_append]; exact Nat.le_refl _), List.drop_left]
      have hC := h.hC
      have ec : (C1 ++ (d :: u)) ++ c :: t = C1 ++ C2 := by rw [List.append_assoc, td]
      refine cX (c1 _ (congrArg some (decide_eq_false fun q => by have := Int.ofNat.inj q; rw [List.length_cons] at this; lia))) (bA (cS (c3 _ (congrArg (fun b => some (!b)) (decide_eq_false n3))) (bA (aO (ir (af l4') (eE (aV (af l1') h.hs f1 rfl rfl) (cV (aV (af l1') h.hs g2 rfl rfl)) (cV (af a2)) (eF (u := some _) (v := some _) (Nat.ble_eq_true_of_le (by lia)))) hr hr (by rw [List.length_map]; lia)) ?_))))
      rw [esl]
      refine bA (aO (cy (af a2) (af l1') hx2.hs g2 rfl) ?_)
      refine brk loc2 _ ⟨bv (pl, pc) (C1 ++ d :: u), c :: t ++ bp (bl ++ X.drop n), [], false⟩ (ps ++ [d :: u]) (a0 _ (by decide)) ((Kp.set (.inr rfl)).trans (Kp.set (.inl h.oS))) (SVx.drop (SVx.upd (D1 := C1 ++ d :: u) (D2 := c :: t) (ql := pl) (qc := pc) hx2 ?_ (by rw [ec]; exact hC) rfl rfl trivial (fun q => Bool.noConfusion q) ?_)) ((aM hrs.symm).trans ((aQ (ax hr)).trans (by rw [List.map_append]; rfl))) (by rw [w1, List.flatten_append]; simp) w2.symm (by rw [List.length_append]; exact Nat.le_refl _)
      · rw [ec, List.length_append (as := C1) (bs := d :: u)]; rfl
      · have := h.siz
        rw [h.rem, List.length_append] at this
        show (c :: t ++ _).length + 0 ≤ _
        rw [List.length_append, List.length_cons]; lia
variable {k : AV → List AO → Prop}
theorem rc {loc : List (Nat × AV)} {r : Nat} {ps : List (List Nat)} (l : ag N.J loc = some (.obj r)) (hr : os[r]? = some (.list (ps.map .str))) (hl : ps.flatten.length ≤ 9000) (hk : k (.str ps.flatten) os) :
    ae (aR N.au (aBM 1 d6 (ad (AV.str [])) [aa N.J])) (ae (ay (aa N.au)) aj) ⟨loc, os⟩ (gK k) :=
  aO (bR (oe (os' := os) (b := .str ps.flatten) aA rfl (bi (af l)) fun K hK => jZ hr (by rw [fL]; show _ + ps.length * 0 ≤ _; lia) (by rw [jY]; exact hK))) (eQ (af lk0) hk)
inductive Cui (O : Nat → Prop) (os : List AO) (s : Nat) (S : Ss) (f : Nat → Bool) (chars : AV) (opp : Bool) (m : Nat) (st : St) : Prop
  | mk (loc' : List (Nat × AV)) (os' : List AO) (S' : Ss) (C1 C2 : List Nat) (pl pc : Int) (rm x e n : Nat) (nl : AV) (bl X : List Nat) (er : List AV) (ps : List (List Nat)) (e0 : st = ⟨loc', os'⟩) (l1 : ag N.a loc' = some (.obj s)) (l2 : ag N.ag loc' = some chars) (l3 : ag N.ai loc' = some (.bool opp)) (l4 : ag N.J loc' = some (.obj os.length))
      (kp : Kp O os os') (hx : SVx O os' s S' C1 C2 pl pc rm x e n nl bl X er) (hr : os'[os.length]? = some (.list (ps.map .str))) (w1 : ps.flatten ++ S'.rem.takeWhile f = S.rem.takeWhile f) (w2 : S'.rem.dropWhile f = S.rem.dropWhile f)
      (hm : m = 2 * S'.rem.length + (if C2 = [] then 1 else 0)) (hms : ps.length + m ≤ 19000) : Cui O os s S f chars opp m st
theorem iW {chars : AV} {opp : Bool} {P : Nat → Bool} (h : SV O os s S) (hO : ∀ j, O j → j < os.length) (hP : ∀ os', Kp O os os' → ∀ c, bz tb os' .In (.str [c]) chars = some (P c))
    (hk : ∀ os' S', Kp O os os' → S'.rem = S.rem.dropWhile (fun c => decide (P c = opp)) → SV O os' s S' → k (.str (S.rem.takeWhile fun c => decide (P c = opp))) os') :
    T.charsUntil ⟨[(N.a, .obj s), (N.ag, chars), (N.ai, .bool opp)], os⟩ (gK k) := by
  rw [rP]
  generalize hf : (fun c => decide (P c = opp)) = f at hk
  have hor : ¬ O os.length := fun q => Nat.lt_irrefl _ (hO _ q)
  have kp0 : Kp O os (os ++ [.list []]) := Kp.app O _ _
  have hsz : S.rem.length ≤ 9000 := by obtain ⟨C1, C2, pl, pc, rm, x, e, n, nl, bl, X, er, h⟩ := h; have := h.siz; lia
  have hsz2 : (S.rem.takeWhile f).length ≤ 9000 := Nat.le_trans (List.takeWhile_prefix f).length_le hsz
  have kpO : ∀ os1 os2, Kp O os os1 → Kp (fun j => O j ∨ j = os.length) os1 os2 → Kp O os os2 := fun os1 os2 kp q => ⟨Nat.le_trans kp.1 q.1, fun j hj hn => (q.2 j (Nat.lt_of_lt_of_le hj kp.1) (fun q2 => q2.elim hn (Nat.ne_of_lt hj))).trans (kp.2 j hj hn)⟩
  refine aO (bR (lw dz rfl)) ?_
  refine ⟨Cui O os s S f chars opp, ?_, ?_⟩
  · obtain ⟨C1, C2, pl, pc, rm, x, e, n, nl, bl, X, er, h⟩ := h
    refine ⟨_, _, os ++ [.list []], S, C1, C2, pl, pc, rm, x, e, n, nl, bl, X, er, [], rfl, rfl, rfl, rfl, rfl, kp0, h.keep (O' := fun _ => False) (Kp.app _ _ _) (fun _ _ q => q), bf rfl, rfl, rfl, rfl, ?_⟩
    show 0 + _ ≤ _
    split <;> lia
  · rintro m st ⟨loc', os', S', C1, C2, pl, pc, rm, x, e, n, nl, bl, X, er, ps, rfl, l1, l2, l3, l4, kp, hx, hr, w1, w2, hm, hms⟩
    refine oB (P := P) (opp := opp) hx l1 l2 l3 l4 (hP os' kp) hf hr hor (by lia) (fun loc2 os2 S2 ps2 b1 b2 b3 b4 b5 b6 _ => ?_) fun ht loc2 a0 C bl2 X2 n2 pl2 pc2 er2 hC os2 b1 b2 b3 => ?_
    · rw [w1] at b5
      rw [w2] at b6
      refine rc (b1.trans l4) b4 (by rw [b5]; exact hsz2) ?_
      rw [b5]
      exact hk os2 S2 (kpO _ _ kp b2) b6 b3
    · have hrem := hx.rem
      have hlr : S'.rem.length = C2.length + (bp (bl ++ X.drop n)).length := by rw [hrem, List.length_append]
      have hd : C2.dropWhile f = [] := by
        have td := List.takeWhile_append_dropWhile (p := f) (l := C2)
        rw [ht] at td
        exact List.append_right_eq_self.mp td
      have hlt : 2 * (bp (bl ++ X.drop n)).length < m := by
        rw [hm, hlr]
        split
        · lia
        · rename_i q
          have := List.length_pos_iff.mpr q
          lia
      refine ⟨2 * (bp (bl ++ X.drop n)).length, hlt, loc2, os2, _, [], C, pl2, pc2, rm, x, e, n2, nl, bl2, X2, er2, ps ++ [C2], rfl, (a0 _ (by decide)).trans l1, (a0 _ (by decide)).trans l2, (a0 _ (by decide)).trans l3, (a0 _ (by decide)).trans l4, kpO _ _ kp b1, b3, b2, ?_, ?_, by rw [if_neg hC]; rfl, ?_⟩
      · rw [← w1, hrem, List.takeWhile_append, if_pos (congrArg List.length ht), List.flatten_append]; simp
      · rw [← w2, hrem, List.dropWhile_append, hd]; rfl
      · rw [List.length_append]; show ps.length + 1 + _ ≤ _; lia
end
theorem iX {os : List AO} {s : Nat} {X : List Nat} {k : AV → List AO → Prop} (hi : os[s]? = some (.inst 166 [])) (hX : X.length ≤ 9000) (hsur : ∀ c ∈ X, c < 55296 ∨ 56319 < c)
    (h : ∀ os', Keep os os' [s] → SV (fun j => j = s ∨ os.length ≤ j ∧ j < os'.length) os' s ⟨(0, 0), bp X, [], false⟩ → k .none os') : F.initHTMLUnicodeInputStream [.obj s, .str X] os k := by
  have hs := ax hi
  refine bW (loc := [(N.a, .obj s), (N.an, .str X)]) rfl ?_
  have ln : ag N.bc [] = none := rfl
  have e1 : ∀ a : AV, Nat.ble [a].length 1000 = true := fun _ => rfl
  have b112 : Nat.beq 112 112 = true := rfl
  have b105 : Nat.beq 105 105 = true := rfl
  have hi1 : (os ++ [AO.meth 148 (.obj s)])[s]? = some (.inst 166 []) := aT hi
  have hl1 := ax hi1
  have hi2 : ((os ++ [AO.meth 148 (.obj s)]).set s (.inst 166 [(N.C, .obj os.length)]) ++ [AO.list [.int 0]])[s]? = some (.inst 166 [(N.C, .obj os.length)]) := aT (aQ hl1)
  have el : ((os ++ [AO.meth 148 (.obj s)]).set s (.inst 166 [(N.C, .obj os.length)])).length = os.length + 1 := by simp
  simp (disch := decide) only [T.initHTMLUnicodeInputStream, ae, ah, bg, aa, aE, aZ, dM hi ln m1, cI _ hi1 g6 rfl, bx, cx, aX, ad, e1, cond_true, el, cI _ hi2 g7 rfl, ba]
  have k1 : Keep os (((os ++ [AO.meth 148 (.obj s)]).set s (.inst 166 [(N.C, .obj os.length)]) ++ [AO.list [.int 0]]).set s (.inst 166 [(N.C, .obj os.length), (N.P, .obj (os.length + 1))])) [s] := ((((Keep.refl os [s]).app).set (by simp)).app).set (by simp)
  have h1 : (((os ++ [AO.meth 148 (.obj s)]).set s (.inst 166 [(N.C, .obj os.length)]) ++ [AO.list [.int 0]]).set s (.inst 166 [(N.C, .obj os.length), (N.P, .obj (os.length + 1))]))[s]? = some (.inst 166 [(N.C, .obj os.length), (N.P, .obj (os.length + 1))]) := aQ (ax hi2)
  have h2 : (((os ++ [AO.meth 148 (.obj s)]).set s (.inst 166 [(N.C, .obj os.length)]) ++ [AO.list [.int 0]]).set s (.inst 166 [(N.C, .obj os.length), (N.P, .obj (os.length + 1))]))[os.length]? = some (.meth 148 (.obj s)) := by
    rw [aM (by lia)]
    refine aT ?_
    rw [aM (by lia)]; simp
  have h3 : (((os ++ [AO.meth 148 (.obj s)]).set s (.inst 166 [(N.C, .obj os.length)]) ++ [AO.list [.int 0]]).set s (.inst 166 [(N.C, .obj os.length), (N.P, .obj (os.length + 1))])).length = os.length + 2 := by simp
  generalize ((os ++ [AO.meth 148 (.obj s)]).set s (.inst 166 [(N.C, .obj os.length)]) ++ [AO.list [.int 0]]).set s (.inst 166 [(N.C, .obj os.length), (N.P, .obj (os.length + 1))]) = q at *
  have l1 : ag N.bh [(N.C, AV.obj os.length), (N.P, .obj (os.length + 1))] = none := rfl
  simp (disch := decide) only [aI, aa, aX, aE, aZ, dM h1 l1 m2, b112, cond_true]
  refine gJ ?_
  have h4 : (q ++ [.inst 73 (Xfs X 0)])[s]? = some (.inst 166 [(N.C, .obj os.length), (N.P, .obj (os.length + 1))]) := aT h1
  have h5 : ((q ++ [AO.inst 73 (Xfs X 0)]).set s (.inst 166 [(N.C, .obj os.length), (N.P, .obj (os.length + 1)), (N.V, .obj (os.length + 2))]))[s]? = some (.inst 166 [(N.C, .obj os.length), (N.P, .obj (os.length + 1)), (N.V, .obj (os.length + 2))]) := aQ (ax h4)
  have l2 : ag N.bk [(N.C, AV.obj os.length), (N.P, .obj (os.length + 1)), (N.V, .obj (os.length + 2))] = none := rfl
  simp (disch := decide) only [cI _ h4 g5 rfl, ba, bx, h3, aK, dM h5 l2 m3, b105, cond_true, aj, aI, aX, aa, aE]
  refine lz h5 ?_
  have k2 : Keep os (((q ++ [AO.inst 73 (Xfs X 0)]).set s (.inst 166 [(N.C, .obj os.length), (N.P, .obj (os.length + 1)), (N.V, .obj (os.length + 2))])).set s (.inst 166 (Sfs (.obj os.length) (.obj (os.length + 1)) (.obj (os.length + 2)) (.obj ((q ++ [AO.inst 73 (Xfs X 0)]).set s (.inst 166 [(N.C, .obj os.length), (N.P, .obj (os.length + 1)), (N.V, .obj (os.length + 2))])).length) .none [] 0 0 0 0)) ++ [.list []]) [s] := (((k1.app).set (by simp)).set (by simp)).app
  have el2 : ((q ++ [AO.inst 73 (Xfs X 0)]).set s (.inst 166 [(N.C, .obj os.length), (N.P, .obj (os.length + 1)), (N.V, .obj (os.length + 2))])).length = os.length + 3 := by simp [h3]
  rw [el2] at k2 ⊢
  have hsl2 : s < ((q ++ [AO.inst 73 (Xfs X 0)]).set s (.inst 166 [(N.C, .obj os.length), (N.P, .obj (os.length + 1)), (N.V, .obj (os.length + 2))])).length := by rw [el2]; lia
  refine h _ k2 ⟨[], [], 0, 0, os.length, os.length + 2, os.length + 3, 0, .obj (os.length + 1), [], X, [], ?_, ?_, ?_, ?_, .inl rfl, ?_, ?_, ?_, .inl rfl, Nat.zero_le _, hX, by simp, ?_, hsur, rfl, rfl, trivial, fun q => Bool.noConfusion q, ?_⟩
  · exact aT (aQ hsl2)
  · refine aT ?_
    rw [aM (by lia), aM (by lia)]; exact aT h2
  · refine aT ?_
    rw [aM (by lia), aM (by lia), ← h3]; simp
  · have : os.length + 3 = (((q ++ [AO.inst 73 (Xfs X 0)]).set s (.inst 166 [(N.C, .obj os.length), (N.P, .obj (os.length + 1)), (N.V, .obj (os.length + 2))])).set s (.inst 166 (Sfs (.obj os.length) (.obj (os.length + 1)) (.obj (os.length + 2)) (.obj (os.length + 3)) .none [] 0 0 0 0))).length := by rw [List.length_set, el2]
    rw [bf this]
  · refine .inr ⟨by lia, ?_⟩
    rw [List.length_append, List.length_set, el2]; show _ < os.length + 3 + 1; lia
  · refine .inr ⟨by lia, ?_⟩
    rw [List.length_append, List.length_set, el2]; show _ < os.length + 3 + 1; lia
  · refine .inr ⟨by lia, ?_⟩
    rw [List.length_append, List.length_set, el2]; show _ < os.length + 3 + 1; lia
  · simp; lia
  · have := gc X
    simp; lia
inductive Tok where
  | tag (kind : Int) (name : List Nat) (n : Nat) (sc isD : Bool)
  | plain (kind : Int) (data : List Nat)
  | doc
noncomputable abbrev cO (kd : Int) (nm : List Nat) (dl : Nat) (sc ack : Bool) : List (Nat × AV) := (N.h, .int kd) :: (N.k, .str nm) :: (N.b, .obj dl) :: (N.K, .bool sc) :: (if ack then [(N.a2, .bool false)] else [])
noncomputable abbrev mv : List (Nat × AV) := [(N.h, .int 0), (N.k, .str []), (N.aB, .none), (N.aE, .none), (N.av, .bool true)]
noncomputable def TokAt (B : Nat → Prop) (os : List AO) (a : AV) : Tok → Prop
  | .plain kd d => ∃ i fs, a = .obj i ∧ os[i]? = some (.dict fs) ∧ B i ∧ free fs = true ∧ ag N.h fs = some (.int kd) ∧ ag N.b fs = some (.str d) ∧ kd ≠ 0 ∧ kd ≠ 3 ∧ kd ≠ 4
  | .doc => ∃ i, a = .obj i ∧ os[i]? = some (.dict mv) ∧ B i
  | .tag kd nm n sc d => ∃ i dl ack, a = .obj i ∧ os[i]? = some (.dict (cO kd nm dl sc ack)) ∧ B i ∧ B dl ∧ (kd = 3 ∨ kd = 4) ∧ n ≤ 1000 ∧ nm.length ≤ 9000 ∧ match d with
    | true => n = 0 ∧ os[dl]? = some (.dict [])
    | false => ∃ l, l.length = n ∧ os[dl]? = some (.list l)
noncomputable def Toks (B : Nat → Prop) (os : List AO) : List AV → List Tok → Prop
  | [], [] => True
  | a :: r, k :: q => TokAt B os a k ∧ Toks B os r q
  | _, _ => False
noncomputable def CurAt (B : Nat → Prop) (os : List AO) (a : AV) : Option Tok → Prop
  | none => a = .none
  | some k => TokAt B os a k
noncomputable def gy (B B' : Nat → Prop) (os os' : List AO) : Prop := ∀ j X, B j → os[j]? = some X → ((∃ fs, X = .dict fs) ∨ ∃ l, X = .list l) → os'[j]? = some X ∧ B' j
theorem TokAt.keep {B B' : Nat → Prop} {os os' : List AO} {a : AV} {k : Tok} (h : TokAt B os a k) (hs : gy B B' os os') : TokAt B' os' a k := by
  cases k with
  | plain kd d =>
    obtain ⟨i, fs, e, h1, h2, r⟩ := h
    obtain ⟨q1, q2⟩ := hs i _ h2 h1 (.inl ⟨_, rfl⟩)
    exact ⟨i, fs, e, q1, q2, r⟩
  | doc =>
    obtain ⟨i, e, h1, h2⟩ := h
    obtain ⟨q1, q2⟩ := hs i _ h2 h1 (.inl ⟨_, rfl⟩)
    exact ⟨i, e, q1, q2⟩
  | tag kd nm n sc d =>
    obtain ⟨i, dl, ack, e, h1, h2, h3, h4, h5, h5', h6⟩ := h
    obtain ⟨q1, q2⟩ := hs i _ h2 h1 (.inl ⟨_, rfl⟩)
    refine ⟨i, dl, ack, e, q1, q2, ?_, h4, h5, h5', ?_⟩
    · cases d with
      | true => exact (hs dl _ h3 h6.2 (.inl ⟨_, rfl⟩)).2
      | false => obtain ⟨l, _, h8⟩ := h6; exact (hs dl _ h3 h8 (.inr ⟨_, rfl⟩)).2
    · cases d with
      | true => exact ⟨h6.1, (hs dl _ h3 h6.2 (.inl ⟨_, rfl⟩)).1⟩
      | false => obtain ⟨l, h7, h8⟩ := h6; exact ⟨l, h7, (hs dl _ h3 h8 (.inr ⟨_, rfl⟩)).1⟩
theorem Toks.keep {B B' : Nat → Prop} {os os' : List AO} (hs : gy B B' os os') : ∀ {Q : List AV} {q : List Tok}, Toks B os Q q → Toks B' os' Q q
  | [], [], _ => trivial
  | _ :: _, _ :: _, ⟨h, r⟩ => ⟨h.keep hs, r.keep hs⟩
  | [], _ :: _, h => h.elim
  | _ :: _, [], h => h.elim
theorem CurAt.keep {B B' : Nat → Prop} {os os' : List AO} {a : AV} {k : Option Tok} (h : CurAt B os a k) (hs : gy B B' os os') : CurAt B' os' a k := by
  cases k with
  | none => exact h
  | some k => exact TokAt.keep h hs
theorem Toks.len {B : Nat → Prop} {os : List AO} : ∀ {Q : List AV} {q : List Tok}, Toks B os Q q → Q.length = q.length
  | [], [], _ => rfl
  | _ :: _, _ :: _, ⟨_, r⟩ => by rw [List.length_cons, List.length_cons, r.len]
  | [], _ :: _, h => h.elim
  | _ :: _, [], h => h.elim
theorem Toks.snoc {B : Nat → Prop} {os : List AO} {a : AV} {k : Tok} (ha : TokAt B os a k) : ∀ {Q : List AV} {q : List Tok}, Toks B os Q q → Toks B os (Q ++ [a]) (q ++ [k])
  | [], [], _ => ⟨ha, trivial⟩
  | _ :: _, _ :: _, ⟨h, r⟩ => ⟨h, r.snoc ha⟩
  | [], _ :: _, h => h.elim
  | _ :: _, [], h => h.elim
structure Ts where
  s : Nat
  qi : Nat
  ca : AV
  S : Ss
  st : Nat
  cur : Option Tok
  q : List Tok
  sep : Bool
noncomputable abbrev Tfs (s l4 m : Nat) (ca : AV) (qi : Nat) : List (Nat × AV) := [(N.e, .obj s), (N.E, .none), (N.O, .bool false), (N.ab, .obj l4), (N.i, .obj m), (N.aQ, .bool false), (N.m, ca), (N.g, .obj qi)]
noncomputable def Sep (Q : List AV) (ca : AV) (q : List Tok) : Prop := (∀ a ∈ Q, a ≠ ca) ∧ ∀ k ∈ q, ∃ kd d, k = .plain kd d
noncomputable abbrev Bq (O Os : Nat → Prop) (qi : Nat) : Nat → Prop := fun j => O j ∧ ¬ Os j ∧ j ≠ qi
structure TVx (O Os : Nat → Prop) (os : List AO) (t : Nat) (T : Ts) (l4 m : Nat) (Q : List AV) : Prop where
  inst : os[t]? = some (.inst 762 (Tfs T.s l4 m T.ca T.qi))
  meth : os[m]? = some (.meth T.st (.obj t))
  que : os[T.qi]? = some (.list Q)
  bT : O t ∧ ¬ Os t
  bM : O m ∧ ¬ Os m
  bQ : O T.qi ∧ ¬ Os T.qi
  toks : Toks (Bq O Os T.qi) os Q T.q
  cur : CurAt (Bq O Os T.qi) os T.ca T.cur
  sv : SV Os os T.s T.S
  sub : ∀ j, Os j → O j
  bnd : ∀ j, O j → j < os.length
  sep : T.sep = true → Sep Q T.ca T.q
inductive TV (O : Nat → Prop) (os : List AO) (t : Nat) (T : Ts) : Prop
  | mk (Os : Nat → Prop) (l4 m : Nat) (Q : List AV) (h : TVx O Os os t T l4 m Q) : TV O os t T
structure Grow (O : Nat → Prop) (os : List AO) (O' : Nat → Prop) (os' : List AO) : Prop where
  kp : Kp O os os'
  mono : ∀ j, O j → O' j
  new : ∀ j, O' j → O j ∨ os.length ≤ j
theorem Grow.refl (O : Nat → Prop) (os : List AO) : Grow O os O os := ⟨Kp.refl _ _, fun _ h => h, fun _ h => .inl h⟩
theorem Grow.of {O : Nat → Prop} {os os' : List AO} (h : Kp O os os') : Grow O os O os' := ⟨h, fun _ h => h, fun _ h => .inl h⟩
theorem Grow.trans {O O' O'' : Nat → Prop} {os os' os'' : List AO} (h : Grow O os O' os') (h' : Grow O' os' O'' os'') : Grow O os O'' os'' where
  kp := ⟨Nat.le_trans h.kp.1 h'.kp.1, fun j hj hn => (h'.kp.2 j (Nat.lt_of_lt_of_le hj h.kp.1) fun q => (h.new j q).elim hn fun q2 => by lia).trans (h.kp.2 j hj hn)⟩
  mono j hj := h'.mono j (h.mono j hj)
  new j hj := (h'.new j hj).elim (fun q => h.new j q) fun q => .inr (Nat.le_trans h.kp.1 q)
theorem TVx.other {O Os P : Nat → Prop} {os os' : List AO} {t l4 m : Nat} {T : Ts} {Q : List AV} (h : TVx O Os os t T l4 m Q) (hk : Kp P os os') (hd : ∀ j, O j → ¬ P j) : TVx O Os os' t T l4 m Q := by
  have st : gy (Bq O Os T.qi) (Bq O Os T.qi) os os' := fun j X hB hj _ => ⟨hk.at hj (hd j hB.1), hB⟩
  exact { h with inst := hk.at h.inst (hd _ h.bT.1), meth := hk.at h.meth (hd _ h.bM.1), que := hk.at h.que (hd _ h.bQ.1), toks := h.toks.keep st, cur := h.cur.keep st, sv := h.sv.keep hk (fun j hj => hd j (h.sub j hj)), bnd := fun j hj => Nat.lt_of_lt_of_le (h.bnd j hj) hk.1 }
theorem TVx.own {O O' Os : Nat → Prop} {os : List AO} {t l4 m : Nat} {T : Ts} {Q : List AV} (h : TVx O Os os t T l4 m Q) (hO : ∀ j, O j → O' j) (hb : ∀ j, O' j → j < os.length) : TVx O' Os os t T l4 m Q := by
  have st : gy (Bq O Os T.qi) (Bq O' Os T.qi) os os := fun j X hB hj _ => ⟨hj, hO j hB.1, hB.2⟩
  exact { h with bT := ⟨hO _ h.bT.1, h.bT.2⟩, bM := ⟨hO _ h.bM.1, h.bM.2⟩, bQ := ⟨hO _ h.bQ.1, h.bQ.2⟩, toks := h.toks.keep st, cur := h.cur.keep st, sub := fun j hj => hO j (h.sub j hj), bnd := hb }
theorem TV.other {O P : Nat → Prop} {os os' : List AO} {t : Nat} {T : Ts} (h : TV O os t T) (hk : Kp P os os') (hd : ∀ j, O j → ¬ P j) : TV O os' t T := by
  obtain ⟨Os, l4, m, Q, h⟩ := h
  have st : gy (Bq O Os T.qi) (Bq O Os T.qi) os os' := fun j X hB hj _ => ⟨hk.at hj (hd j hB.1), hB⟩
  exact ⟨Os, l4, m, Q, { h with inst := hk.at h.inst (hd _ h.bT.1), meth := hk.at h.meth (hd _ h.bM.1), que := hk.at h.que (hd _ h.bQ.1), toks := h.toks.keep st, cur := h.cur.keep st, sv := h.sv.keep hk (fun j hj => hd j (h.sub j hj)), bnd := fun j hj => Nat.lt_of_lt_of_le (h.bnd j hj) hk.1 }⟩
section
variable {O Os : Nat → Prop} {os : List AO} {t : Nat} {T : Ts} {l4 m : Nat} {Q : List AV} {loc : List (Nat × AV)}
theorem TVx.strm (h : TVx O Os os t T l4 m Q) {os' : List AO} {S' : Ss} (hk : Kp Os os os') (sv : SV Os os' T.s S') : TVx O Os os' t { T with S := S' } l4 m Q := by
  have st : gy (Bq O Os T.qi) (Bq O Os T.qi) os os' := fun j X hB hj _ => ⟨hk.at hj hB.2.1, hB⟩
  exact { h with inst := hk.at h.inst h.bT.2, meth := hk.at h.meth h.bM.2, que := hk.at h.que h.bQ.2, toks := h.toks.keep st, cur := h.cur.keep st, sv := sv, bnd := fun j hj => Nat.lt_of_lt_of_le (h.bnd j hj) hk.1 }
theorem TVx.grow (h : TVx O Os os t T l4 m Q) {os' : List AO} (hk : Kp Os os os') : Grow O os O os' := Grow.of (hk.sub h.sub)
theorem t1 : cv 762 N.e = true := by kernel_rfl
theorem t2 : cv 762 N.i = true := by kernel_rfl
theorem t3 : cv 762 N.m = true := by kernel_rfl
theorem t4 : cv 762 N.g = true := by kernel_rfl
theorem dF {n g x : Nat} {Tf : TF} {Ts' : List TE} {k : AV → St → Prop} (h : TVx O Os os t T l4 m Q) (hself : ag x loc = some (.obj t)) (hm : cw 166 n cr = some g) (hn : ∀ a b c d e f sz off pl pc, ag n (Sfs a b c d e f sz off pl pc) = none)
    (hk : aX Ts' ⟨loc, os⟩ fun avs st2 => Tf (.obj T.s :: avs) st2.objs fun v os => k v { st2 with objs := os }) : aI n g Tf (ak N.e (aa x)) Ts' ⟨loc, os⟩ k := by
  obtain ⟨C1, C2, pl, pc, rm, x, e, nn, nl, bl, X, er, sx⟩ := h.sv
  have hb : Nat.beq g g = true := by simp
  simp (disch := decide) only [aI, ak, aa, hself, dp h.inst t1, aE, aZ, cu, cond_true, dM sx.hs (hn _ _ _ _ _ _ _ _ _ _) hm, hb]
  exact hk
theorem mc1 : cw 166 N.u cr = some 133 := by kernel_rfl
theorem mc2 : cw 166 N.T cr = some 163 := by kernel_rfl
theorem mc3 : cw 166 N.N cr = some 156 := by kernel_rfl
theorem mc4 : cw 166 N.a0 cr = some 126 := by kernel_rfl
theorem dr {k : AV → St → Prop} (h : TV O os t T) (hself : ag N.a loc = some (.obj t))
    (h0 : T.S.rem = [] → ∀ os', Grow O os O os' → TV O os' t { T with S := { T.S with one := false } } → k .none ⟨loc, os'⟩)
    (h1 : ∀ c r, T.S.rem = c :: r → ∀ os', Grow O os O os' → TV O os' t { T with S := ⟨adv T.S.pos c, r, (c, T.S.pos) :: T.S.H, true⟩ } → k (.str [c]) ⟨loc, os'⟩) :
    aI N.u 133 F.char (ak N.e (aa N.a)) [] ⟨loc, os⟩ k := by
  obtain ⟨Os, l4, m, Q, h⟩ := h
  refine dF h hself mc1 (fun _ _ _ _ _ _ _ _ _ _ => rfl) ?_
  simp only [aX]
  exact p3 h.sv (fun hr os' hk sv => h0 hr os' (h.grow hk) ⟨_, _, _, _, h.strm hk sv⟩) fun c r hr os' hk sv => h1 c r hr os' (h.grow hk) ⟨_, _, _, _, h.strm hk sv⟩
theorem fy {k : AF → St → Prop} (h : TV O os t T) (hself : ag N.a loc = some (.obj t)) (hd : ag N.b loc = some .none) (hk : k .next ⟨loc, os⟩) :
    aK (aI N.T 163 F.unget (ak N.e (aa N.a)) [(aa N.b)]) ⟨loc, os⟩ k := by
  obtain ⟨Os, l4, m, Q, h⟩ := h
  unfold aK
  refine dF h hself mc2 (fun _ _ _ _ _ _ _ _ _ _ => rfl) ?_
  simp only [aX, aa, hd]
  exact iG hk
theorem gf {k : AF → St → Prop} {c : Nat} {q : Int × Int} {H : List (Nat × (Int × Int))} (h : TV O os t T) (hself : ag N.a loc = some (.obj t)) (hd : ag N.b loc = some (.str [c])) (hH : T.S.H = (c, q) :: H) (ho : T.S.one = true)
    (hk : ∀ os', Grow O os O os' → TV O os' t { T with S := ⟨q, c :: T.S.rem, H, false⟩ } → k .next ⟨loc, os'⟩) :
    aK (aI N.T 163 F.unget (ak N.e (aa N.a)) [(aa N.b)]) ⟨loc, os⟩ k := by
  obtain ⟨Os, l4, m, Q, h⟩ := h
  unfold aK
  refine dF h hself mc2 (fun _ _ _ _ _ _ _ _ _ _ => rfl) ?_
  simp only [aX, aa, hd]
  exact kL h.sv hH fun os' p hk' hp sv => hk os' (h.grow hk') ⟨_, _, _, _, h.strm hk' (hp ho ▸ sv)⟩
theorem TVx.app (h : TVx O Os os t T l4 m Q) (r : List AO) : TVx O Os (os ++ r) t T l4 m Q := by
  have := h.strm (S' := T.S) (Kp.app Os os r) (h.sv.keep (O' := fun _ => False) (Kp.app _ _ _) fun _ _ q => q)
  exact this
theorem cU {x : Nat} {k : AV → St → Prop} {chars : AV} {opp : Bool} {P : Nat → Bool} {Ts' : List TE} {avs : List AV} {r : List AO} (h : TV O os t T) (hself : ag x loc = some (.obj t)) (ho : avs = [chars] ∧ opp = false ∨ avs = [chars, .bool opp])
    (hargs : ∀ K : List AV → St → Prop, K avs ⟨loc, os ++ r⟩ → aX Ts' ⟨loc, os⟩ K) (hP : ∀ os', Kp O (os ++ r) os' → ∀ c, bz tb os' .In (.str [c]) chars = some (P c))
    (hk : ∀ os' S', Grow O os O os' → S'.rem = T.S.rem.dropWhile (fun c => decide (P c = opp)) → TV O os' t { T with S := S' } → k (.str (T.S.rem.takeWhile fun c => decide (P c = opp))) ⟨loc, os'⟩) :
    aI N.N 156 F.charsUntil (ak N.e (aa x)) Ts' ⟨loc, os⟩ k := by
  obtain ⟨Os, l4, m, Q, h⟩ := h
  refine dF h hself mc3 (fun _ _ _ _ _ _ _ _ _ _ => rfl) ?_
  refine hargs _ ?_
  have h2 := h.app r
  have key := iW (k := fun v os' => k v ⟨loc, os'⟩) h2.sv (fun j hj => h2.bnd j (h2.sub j hj)) (P := P) (opp := opp) (chars := chars) (fun os' hk => hP os' (hk.sub h2.sub)) fun os' S' hk' hr sv => hk os' S' ((Grow.of (Kp.app O os r)).trans (h2.grow hk')) hr ⟨_, _, _, _, h2.strm hk' sv⟩
  rcases ho with ⟨rfl, rfl⟩ | rfl
  · exact bW (loc := [(N.a, .obj T.s), (N.ag, chars), (N.ai, .bool false)]) rfl key
  · exact bW (loc := [(N.a, .obj T.s), (N.ag, chars), (N.ai, .bool opp)]) rfl key
end
section
variable {O Os : Nat → Prop} {os : List AO} {t : Nat} {T : Ts} {l4 m : Nat} {Q : List AV} {loc : List (Nat × AV)}
theorem gh {B : Nat → Prop} {i : Nat} {X : AO} {Y : AO} (hi : os[i]? = some Y) (hY : ∀ Z, os[i]? = some Z → ¬ ((∃ fs, Z = .dict fs) ∨ ∃ l, Z = .list l)) : gy B B os (os.set i X) := by
  intro j Z hB hj hs
  refine ⟨?_, hB⟩
  rw [aM]
  · exact hj
  · rintro rfl
    exact hY Z hj hs
theorem gT {i : Nat} {Y : AO} (hi : os[i]? = some Y) (h : ∀ fs, Y ≠ .dict fs) (h' : ∀ l, Y ≠ .list l) : ∀ Z, os[i]? = some Z → ¬ ((∃ fs, Z = .dict fs) ∨ ∃ l, Z = .list l) := by
  intro Z hZ q
  rw [hi] at hZ
  cases hZ
  rcases q with ⟨fs, e⟩ | ⟨l, e⟩
  · exact h fs e
  · exact h' l e
theorem aG {n g : Nat} {k : AF → St → Prop} (h : TV O os t T) (hself : ag N.a loc = some (.obj t)) (hm : cw 762 n cr = some g) (hn : ∀ a b c d e, ag n (Tfs a b c d e) = none)
    (hk : ∀ O' os', Grow O os O' os' → TV O' os' t { T with st := g } → k .next ⟨loc, os'⟩) : ah N.i (bg n (aa N.a)) (aa N.a) ⟨loc, os⟩ k := by
  obtain ⟨Os, l4, m, Q, h⟩ := h
  have ha : (os ++ [AO.meth g (.obj t)])[t]? = some (.inst 762 (Tfs T.s l4 m T.ca T.qi)) := aT h.inst
  have hl := ax ha
  have hl0 := ax h.inst
  simp (disch := decide) only [ah, bg, aa, hself, dM h.inst (hn _ _ _ _ _) hm, cI _ ha t2 rfl, ba, fh]
  have hO : ¬ O os.length := fun q => Nat.lt_irrefl _ (h.bnd _ q)
  have h1 := h.app [AO.meth g (.obj t)]
  have hne : os.length ≠ t := by lia
  refine hk (fun j => O j ∨ j = os.length) _ ⟨⟨by simp, fun j hj hn => ?_⟩, fun j hj => .inl hj, fun j (hj : O j ∨ j = os.length) => hj.elim .inl fun q => .inr (Nat.le_of_eq q.symm)⟩ ⟨Os, l4, os.length, Q, { h1 with inst := ?_, meth := ?_, que := ?_, bT := ⟨.inl h.bT.1, h.bT.2⟩, bM := ⟨.inr rfl, fun q => hO (h.sub _ q)⟩, bQ := ⟨.inl h.bQ.1, h.bQ.2⟩, toks := ?_, cur := ?_, sv := ?_, sub := fun j hj => .inl (h.sub j hj), bnd := ?_ }⟩
  · have : j ≠ t := fun q => hn (q ▸ h.bT.1)
    rw [aM (fun q => this q.symm), dq hj]
  · exact aQ hl
  · rw [aM (fun q => hne q.symm)]; exact bf rfl
  · rw [aM (aP h.inst h.que (by simp))]; exact h1.que
  · exact (h1.toks.keep (gh ha (gT ha (by simp) (by simp)))).keep (B' := Bq (fun j => O j ∨ j = os.length) Os T.qi) fun j X hB hj _ => ⟨hj, .inl hB.1, hB.2⟩
  · exact (h1.cur.keep (gh ha (gT ha (by simp) (by simp)))).keep (B' := Bq (fun j => O j ∨ j = os.length) Os T.qi) fun j X hB hj _ => ⟨hj, .inl hB.1, hB.2⟩
  · exact h1.sv.keep (O' := fun j => j = t) (Kp.set rfl) fun j hj q => h.bT.2 (q ▸ hj)
  · intro j hj
    rw [List.length_set, List.length_append]
    show j < os.length + 1
    rcases hj with hj | rfl
    · exact Nat.lt_succ_of_lt (h.bnd j hj)
    · exact Nat.lt_succ_self _
theorem kN {O0 : Nat → Prop} {os0 : List AO} {n : Nat} {tk : Tok} {k : AV → List AO → Prop} (h : TVx O Os os t T l4 m Q) (hg : Grow O0 os0 O os) (hn0 : os0.length ≤ n) (hq : T.q.length ≤ 9000) (hn : ¬ O n) (ht : TokAt (fun j => j = n) os (.obj n) tk) (hp : ∃ kd d, tk = .plain kd d)
    (hk : ∀ O' os', Grow O0 os0 O' os' → TV O' os' t { T with q := T.q ++ [tk] } → k .none os') : bP [.obj T.qi, .obj n] os k := by
  have hl := h.toks.len
  have b1 : Nat.ble Q.length 100000 = true := Nat.ble_eq_true_of_le (by lia)
  have hnl : n < os.length := by
    obtain ⟨kd, d, rfl⟩ := hp
    obtain ⟨i, fs, e, h1, _⟩ := ht
    cases e
    exact ax h1
  refine ⟨_, _, _, rfl, h.que, Nat.le_of_ble_eq_true b1, ?_⟩
  have hqt := aP h.que h.inst (by simp)
  have hqm := aP h.que h.meth (by simp)
  have hqs : ∀ j, Os j → j ≠ T.qi := fun j hj q => h.bQ.2 (q ▸ hj)
  have hnq : n ≠ T.qi := fun q => hn (q ▸ h.bQ.1)
  have stay : gy (Bq O Os T.qi) (Bq (fun j => O j ∨ j = n) Os T.qi) os (os.set T.qi (.list (Q ++ [.obj n]))) := fun j X hB hj _ => ⟨by rw [aM (fun q => hB.2.2 q.symm)]; exact hj, .inl hB.1, hB.2⟩
  refine hk (fun j => O j ∨ j = n) _ ⟨?_, fun j hj => .inl (hg.mono j hj), ?_⟩ ⟨Os, l4, m, Q ++ [.obj n], { h with inst := ?_, meth := ?_, que := ?_, bT := ⟨.inl h.bT.1, h.bT.2⟩, bM := ⟨.inl h.bM.1, h.bM.2⟩, bQ := ⟨.inl h.bQ.1, h.bQ.2⟩, toks := ?_, cur := h.cur.keep stay, sv := ?_, sub := fun j hj => .inl (h.sub j hj), bnd := ?_, sep := ?_ }⟩
  · exact (hg.trans (Grow.of (Kp.set h.bQ.1))).kp
  · rintro j (hj | rfl)
    · exact hg.new j hj
    · exact .inr hn0
  · rw [aM hqt]; exact h.inst
  · rw [aM hqm]; exact h.meth
  · exact aQ (ax h.que)
  · refine Toks.snoc (ht.keep (B := fun j => j = n) ?_) (h.toks.keep stay)
    intro j X hj hX _
    subst hj
    exact ⟨by rw [aM (fun q => hnq q.symm)]; exact hX, .inr rfl, fun q => hn (h.sub _ q), hnq⟩
  · exact h.sv.keep (O' := fun j => j = T.qi) (Kp.set rfl) hqs
  · intro j hj
    rw [List.length_set]
    rcases hj with hj | rfl
    · exact h.bnd j hj
    · exact hnl
  · intro hs
    obtain ⟨s1, s2⟩ := h.sep hs
    refine ⟨fun a ha => ?_, fun k hk => ?_⟩
    · rcases List.mem_append.mp ha with ha | ha
      · exact s1 a ha
      · rcases List.mem_singleton.mp ha with rfl
        intro e
        have hc := h.cur
        cases hcur : T.cur with
        | none => rw [hcur] at hc; rw [← e] at hc; cases hc
        | some kk =>
          rw [hcur] at hc
          cases kk with
          | plain kd d => obtain ⟨i, fs, e1, _, h2, _⟩ := hc; rw [← e] at e1; cases e1; exact hn h2.1
          | doc => obtain ⟨i, e1, _, h2⟩ := hc; rw [← e] at e1; cases e1; exact hn h2.1
          | tag kd nm nn sc d => obtain ⟨i, dl, ack, e1, _, h2, _⟩ := hc; rw [← e] at e1; cases e1; exact hn h2.1
    · rcases List.mem_append.mp hk with hk | hk
      · exact s2 k hk
      · rcases List.mem_singleton.mp hk with rfl; exact hp
end
section
variable {O Os : Nat → Prop} {os : List AO} {t : Nat} {T : Ts} {l4 m : Nat} {Q : List AV} {loc : List (Nat × AV)}
theorem TV.app (h : TV O os t T) (r : List AO) : TV O (os ++ r) t T := by
  obtain ⟨Os, l4, m, Q, h⟩ := h
  exact ⟨Os, l4, m, Q, h.app r⟩
theorem TV.bnd (h : TV O os t T) : ∀ j, O j → j < os.length := by
  obtain ⟨Os, l4, m, Q, h⟩ := h
  exact h.bnd
theorem fN {a : List AO} {n : Nat} {X Y : AO} (h : n = a.length) : (a ++ [X]).set n Y = a ++ [Y] := by subst h; exact mr
theorem jj {ts : List Nat} {os : List AO} : cQ tb os (.glob (.ref 48)) (.str ts) = cQ tb [] (.glob (.ref 48)) (.str ts) := rfl
theorem oD {k : AF → St → Prop} (R : Ts → Prop) {ts d : List Nat} {kd : Int} {E : TE} (h : TV O os t T) (hself : ag N.a loc = some (.obj t)) (hts : cQ tb [] (.glob (.ref 48)) (.str ts) = some (.int kd)) (hkd : kd ≠ 0 ∧ kd ≠ 3 ∧ kd ≠ 4)
    (hR : ∀ T1, R T1 → T1.qi = T.qi ∧ T1.q.length ≤ 9000)
    (hE : ∀ K : AV → St → Prop, (∀ O' os' T1, R T1 → Grow O (os ++ [.dict []]) O' os' → TV O' os' t T1 → K (.str d) ⟨loc, os'⟩) → E ⟨loc, os ++ [.dict []]⟩ K)
    (hk : ∀ O' os' T1, R T1 → Grow O os O' os' → TV O' os' t { T1 with q := T1.q ++ [.plain kd d] } → k .next ⟨loc, os'⟩) :
    aK (aBM 2 bP (ak N.g (aa N.a)) [bh [N.h, N.b] [aU tb (ad (.glob (.ref 48))) (ad (.str ts)), E]]) ⟨loc, os⟩ k := by
  have hb := h.bnd
  obtain ⟨Os, l4, m, Q, h⟩ := h
  have b2 : Nat.beq 2 2 = true := rfl
  simp (disch := decide) only [aK, aBM, ak, aa, hself, dp h.inst t4, aE, aZ, cu, cond_true, f0, h.que, b2, aX, bh, aU, ad, jj, hts]
  refine hE _ fun O' os' T1 hr hg hT => ?_
  obtain ⟨hqi, hq⟩ := hR T1 hr
  have hn : ¬ O os.length := fun q => Nat.lt_irrefl _ (hb _ q)
  have hn' : ¬ O' os.length := fun q => (hg.new _ q).elim hn fun q2 => by simp at q2; lia
  have hd : os'[os.length]? = some (.dict []) := hg.kp.at (bf rfl) hn
  have e1 : (eO [N.h, N.b] [.int kd, .str d] [] && Nat.beq [N.h, N.b].length [AV.int kd, .str d].length) = true := rfl
  have e2 : dA [N.h, N.b] [AV.int kd, .str d] [] = [(N.h, .int kd), (N.b, .str d)] := by
    simp (disch := decide) only [dA, bx, ba]
  simp only [hd, e1, cond_true, e2]
  obtain ⟨Os', l4', m', Q', hT⟩ := hT
  rw [← hqi]
  have hk2 : Kp (fun j => j = os.length) os' (os'.set os.length (.dict [(N.h, .int kd), (N.b, .str d)])) := Kp.set rfl
  have hT2 : TV O' (os'.set os.length (.dict [(N.h, .int kd), (N.b, .str d)])) t T1 := TV.other ⟨Os', l4', m', Q', hT⟩ hk2 fun j hj q => hn' (q ▸ hj)
  obtain ⟨Os', l4', m', Q', hT2⟩ := hT2
  have hg2 : Grow O os O' (os'.set os.length (.dict [(N.h, .int kd), (N.b, .str d)])) := by
    refine ⟨⟨?_, fun j hj hn2 => ?_⟩, hg.mono, fun j hj => (hg.new j hj).imp id fun q => by simp at q; lia⟩
    · have := hg.kp.1; simp at this; rw [List.length_set]; lia
    · rw [aM (by lia), hg.kp.2 j (by simp; lia) hn2, dq hj]
  refine kN (tk := .plain kd d) hT2 hg2 (Nat.le_refl _) hq hn' ⟨os.length, _, rfl, aQ (ax hd), rfl, rfl, ?_, ?_, hkd⟩ ⟨kd, d, rfl⟩ fun O3 os3 hg3 hT3 => hk O3 os3 T1 hr hg3 hT3
  · simp (disch := decide) only [aE]
  · simp (disch := decide) only [aZ, aE]
theorem j0 {k : AF → St → Prop} {ts d : List Nat} {kd : Int} {E : TE} (h : TV O os t T) (hself : ag N.a loc = some (.obj t)) (hts : cQ tb [] (.glob (.ref 48)) (.str ts) = some (.int kd)) (hkd : kd ≠ 0 ∧ kd ≠ 3 ∧ kd ≠ 4) (hq : T.q.length ≤ 9000)
    (hE : ∀ os' (K : AV → St → Prop), K (.str d) ⟨loc, os'⟩ → E ⟨loc, os'⟩ K)
    (hk : ∀ O' os', Grow O os O' os' → TV O' os' t { T with q := T.q ++ [.plain kd d] } → k .next ⟨loc, os'⟩) :
    aK (aBM 2 bP (ak N.g (aa N.a)) [bh [N.h, N.b] [aU tb (ad (.glob (.ref 48))) (ad (.str ts)), E]]) ⟨loc, os⟩ k :=
  oD (· = T) h hself hts hkd (by rintro _ rfl; exact ⟨rfl, hq⟩) (fun K hK => hE _ _ (hK O _ T rfl (Grow.refl _ _) (h.app _))) (by rintro O' os' _ rfl g h; exact hk O' os' g h)
theorem bS {k : AF → St → Prop} {ts d : List Nat} {kd : Int} (h : TV O os t T) (hself : ag N.a loc = some (.obj t)) (hts : cQ tb [] (.glob (.ref 48)) (.str ts) = some (.int kd)) (hkd : kd ≠ 0 ∧ kd ≠ 3 ∧ kd ≠ 4) (hq : T.q.length ≤ 9000)
    (hk : ∀ O' os', Grow O os O' os' → TV O' os' t { T with q := T.q ++ [.plain kd d] } → k .next ⟨loc, os'⟩) :
    aK (aBM 2 bP (ak N.g (aa N.a)) [bh [N.h, N.b] [aU tb (ad (.glob (.ref 48))) (ad (.str ts)), ad (.str d)]]) ⟨loc, os⟩ k :=
  j0 h hself hts hkd hq (fun _ _ h => h) hk
theorem p4 {k : AF → St → Prop} {ts d c : List Nat} {kd : Int} (h : TV O os t T) (hself : ag N.a loc = some (.obj t)) (hts : cQ tb [] (.glob (.ref 48)) (.str ts) = some (.int kd)) (hkd : kd ≠ 0 ∧ kd ≠ 3 ∧ kd ≠ 4) (hq : T.q.length ≤ 9000) (hd : ag N.b loc = some (.str c))
    (hk : ∀ O' os', Grow O os O' os' → TV O' os' t { T with q := T.q ++ [.plain kd d] } → k .next ⟨loc, os'⟩) :
    aK (aBM 2 bP (ak N.g (aa N.a)) [bh [N.h, N.b, N.aP] [aU tb (ad (.glob (.ref 48))) (ad (.str ts)), ad (.str d), bh [N.b] [aa N.b]]]) ⟨loc, os⟩ k := by
  have hb := h.bnd
  have h0 := h
  obtain ⟨Os, l4, m, Q, h⟩ := h
  have b2 : Nat.beq 2 2 = true := rfl
  have hn : ¬ O os.length := fun q => Nat.lt_irrefl _ (hb _ q)
  have e0 : (os ++ [AO.dict []]).length = os.length + 1 := by simp
  have e3 : (os ++ [AO.dict []] ++ [AO.dict []])[os.length + 1]? = some (.dict []) := bf (by simp)
  have e4 : ∀ X, (os ++ [AO.dict []] ++ [AO.dict []]).set (os.length + 1) X = os ++ [AO.dict []] ++ [X] := fun X => fN (by simp)
  have e5 : ∀ X, (os ++ [AO.dict []] ++ [X])[os.length]? = some (.dict []) := fun X => aT (bf rfl)
  have f1 : (eO [N.b] [AV.str c] [] && Nat.beq [N.b].length [AV.str c].length) = true := rfl
  have f2 : (eO [N.h, N.b, N.aP] [.int kd, .str d, .obj (os.length + 1)] [] && Nat.beq [N.h, N.b, N.aP].length [AV.int kd, .str d, .obj (os.length + 1)].length) = true := rfl
  simp (disch := decide) only [aK, aBM, ak, aa, hself, dp h.inst t4, aE, aZ, cu, cond_true, f0, h.que, b2, aX, bh, aU, ad, jj, hts, hd, e0, e3, f1, e4, e5, f2, dA, bx, ba]
  have hl2 : os.length < (os ++ [AO.dict []] ++ [AO.dict [(N.b, .str c)]]).length := by simp
  have k1 : Kp (fun j => j = os.length) (os ++ ([AO.dict []] ++ [AO.dict [(N.b, .str c)]])) ((os ++ ([AO.dict []] ++ [AO.dict [(N.b, .str c)]])).set os.length (.dict [(N.h, .int kd), (N.b, .str d), (N.aP, .obj (os.length + 1))])) := Kp.set rfl
  have hT2 := (h0.app ([AO.dict []] ++ [AO.dict [(N.b, .str c)]])).other k1 fun j hj q => hn (q ▸ hj)
  rw [← List.append_assoc] at hT2
  obtain ⟨Os', l4', m', Q', hT2⟩ := hT2
  have hg2 : Grow O os O ((os ++ [AO.dict []] ++ [AO.dict [(N.b, .str c)]]).set os.length (.dict [(N.h, .int kd), (N.b, .str d), (N.aP, .obj (os.length + 1))])) := by
    refine Grow.of ⟨by simp, fun j hj hn2 => ?_⟩
    rw [aM (by lia), List.append_assoc, dq hj]
  refine kN (tk := .plain kd d) hT2 hg2 (Nat.le_refl _) hq hn ⟨os.length, _, rfl, aQ hl2, rfl, rfl, ?_, ?_, hkd⟩ ⟨kd, d, rfl⟩ fun O3 os3 hg3 hT3 => hk O3 os3 hg3 hT3
  · simp (disch := decide) only [aE]
  · simp (disch := decide) only [aZ, aE]
end
theorem br (U : TS) : ae aj U = U := rfl
theorem cz {C : TB} {A B U : TS} {st : St} {k : AF → St → Prop} (hc : ∀ K : Bool → St → Prop, K true st → C st K) (h : ae A U st k) : ae (aIf C A B) U st k := hc _ h
theorem bo {C : TB} {A B U : TS} {st : St} {k : AF → St → Prop} (hc : ∀ K : Bool → St → Prop, K false st → C st K) (h : ae B U st k) : ae (aIf C A B) U st k := hc _ h
theorem bJ {n : Nat} {E : TE} {U : TS} {st : St} {k : AF → St → Prop} (h : E st fun a st' => U { st' with loc := put n a st'.loc } k) : ae (aR n E) U st k := h
theorem kO {E : TE} {U : TS} {st : St} {k : AF → St → Prop} (h : E st fun a st' => k (.ret a) st') : ae (ay E) U st k := h
theorem aF {A U : TS} {st : St} {k : AF → St → Prop} (h : ∀ K : AF → St → Prop, (∀ st', U st' k → K .next st') → A st K) : ae A U st k := h _ fun _ h => h
noncomputable abbrev Kz (a b : List AO) : Prop := Kp (fun _ => False) a b
theorem Kz.set {os o : List AO} {q : Nat} {X : AO} (h : Kz os o) (hq : os.length ≤ q) : Kz os (o.set q X) :=
  ⟨by rw [List.length_set]; exact h.1, fun j hj hn => (aM (Nat.ne_of_gt (Nat.lt_of_lt_of_le hj hq))).trans (h.2 j hj hn)⟩
noncomputable def Tz (a b : List AO) : Prop := ∀ (j : Nat) (v : List AV), a[j]? = some (AO.tup v) → b[j]? = some (AO.tup v)
theorem Tz.set {a : List AO} {j : Nat} {X Y : AO} (h : a[j]? = some X) (hX : ∀ v, X ≠ .tup v) : Tz a (a.set j Y) := fun _ v hi => (aM (aP h hi (hX v))).trans hi
theorem Tz.trans {a b c : List AO} (h : Tz a b) (h' : Tz b c) : Tz a c := fun j v hj => h' j v (h j v hj)
structure Cst (os o : List AO) (tp : Nat) (src : AV) (i : Nat) (C : Addr) (vars : List (Nat × AV)) (l : List AV) : Prop where
  kp : Kz os o
  hj : o[os.length]? = some (.iter tp src i)
  hD : o[os.length + 1]? = some (.list l)
  hc : o[os.length + 2]? = some (.nsp C vars)
section
variable {os o o' : List AO} {tp : Nat} {src : AV} {i : Nat} {C : Addr} {vars : List (Nat × AV)} {l : List AV}
theorem Cst.turn (h : Cst os o tp src i C vars l) (w : List (Nat × AV)) : Cst os ((o.set os.length (.iter tp src (i + 1))).set (os.length + 2) (.nsp C w)) tp src (i + 1) C w l :=
  ⟨(h.kp.set (Nat.le_refl _)).set (Nat.le_add_right _ _), (aM (by lia)).trans (aQ (ax h.hj)), (aM (by lia)).trans ((aM (by lia)).trans h.hD), aQ (by rw [List.length_set]; exact ax h.hc)⟩
theorem Cst.turnT (h : Cst os o tp src i C vars l) (w : List (Nat × AV)) : Tz o ((o.set os.length (.iter tp src (i + 1))).set (os.length + 2) (.nsp C w)) :=
  (Tz.set h.hj fun _ q => by cases q).trans (Tz.set ((aM (by lia)).trans h.hc) fun _ q => by cases q)
theorem Cst.keep (h : Cst os o tp src i C vars l) (k : Kz o o') : Cst os o' tp src i C vars l := ⟨h.kp.trans k, k.at h.hj id, k.at h.hD id, k.at h.hc id⟩
theorem Cst.app (h : Cst os o tp src i C vars l) (l' : List AV) : Cst os (o.set (os.length + 1) (.list l')) tp src i C vars l' :=
  ⟨h.kp.set (Nat.le_add_right _ _), (aM (by lia)).trans h.hj, aQ (ax h.hD), (aM (by lia)).trans h.hc⟩
end
theorem oF {j D jc x n tp i : Nat} {Tt : TB} {Te : TE} {src : AV} {C : Addr} {vars : List (Nat × AV)} {st : St} {k : St → Prop} (hj : st.objs[j]? = some (.iter tp src i)) (hc : st.objs[jc]? = some (.nsp C vars)) (he : cg tb st.objs tp src i = some none)
    (hk : k ⟨st.loc, (st.objs.set j gone).set jc gone⟩) : da tb j D jc x Tt Te (n + 1) st k := by
  unfold da
  rw [hj, hc]; dsimp only; rw [he]; exact hk
theorem mZ {j D jc x n tp i : Nat} {Tt : TB} {Te : TE} {src a : AV} {C : Addr} {vars : List (Nat × AV)} {st : St} {k : St → Prop} (hj : st.objs[j]? = some (.iter tp src i)) (hc : st.objs[jc]? = some (.nsp C vars)) (he : cg tb st.objs tp src i = some (some a))
    (hk : ∀ K1 : AV → St → Prop, (∀ b st2 l, st2.objs[D]? = some (.list l) → l.length ≤ 100000 → da tb j D jc x Tt Te n ⟨st2.loc, st2.objs.set D (.list (l ++ [b]))⟩ k → K1 b st2) → Tt ⟨st.loc, (st.objs.set j (.iter tp src (i + 1))).set jc (.nsp C (put x a vars))⟩ fun ok st1 => bif ok then Te st1 K1 else da tb j D jc x Tt Te n st1 k) : da tb j D jc x Tt Te (n + 1) st k := by
  unfold da
  rw [hj, hc]; dsimp only; rw [he]
  refine hk _ fun b st2 l h1 h2 h3 => ?_
  rw [h1]; exact f8 (Nat.ble_eq_true_of_le h2) h3
theorem gU {Ti : TE} {x tp : Nat} {Tt : Addr → Nat → TB} {Te : Addr → Nat → TE} {loc : List (Nat × AV)} {os : List AO} {src : AV} {els : List AV} {K : AV → St → Prop} {st0 : St} (R : List AO → Nat → List AV → Prop)
    (hi : Ev Ti st0 src ⟨loc, os⟩) (htp : eP tb os src = some tp) (hel : ∀ o, Kz os o → ∀ i, i ≤ els.length → cg tb o tp src i = some els[i]?) (hbig : els.length ≤ 50000) (R0 : ∀ o, R o 0 []) (Rk : ∀ o o' i l, Tz o o' → R o i l → R o' i l)
    (step : ∀ i a l o C vars (K1 : AV → St → Prop) (K2 : St → Prop), els[i]? = some a → Kz os o → o[os.length + 2]? = some (.nsp C vars) → ag x vars = some a → R o i l →
      (∀ o', Kz o o' → R o' (i + 1) l → K2 ⟨loc, o'⟩) → (∀ b o', Kz o o' → R o' (i + 1) (l ++ [b]) → K1 b ⟨loc, o'⟩) → Tt C (os.length + 2) ⟨loc, o⟩ fun ok st1 => bif ok then Te C (os.length + 2) st1 K1 else K2 st1)
    (done : ∀ l o, Kz os o → o[os.length + 1]? = some (.list l) → R o els.length l → K (.obj (os.length + 1)) ⟨loc, o⟩) : dK tb Ti x Tt Te st0 K := by
  refine hi _ ?_
  rw [htp]
  refine ⟨els.length + 1, fun C => ?_⟩
  have loop : ∀ n i l o vars, i + n = els.length → Cst os o tp src i C vars l → R o i l → l.length ≤ i → da tb os.length (os.length + 1) (os.length + 2) x (Tt C (os.length + 2)) (Te C (os.length + 2)) (n + 1) ⟨loc, o⟩ fun st2 => K (.obj (os.length + 1)) st2 := by
    intro n
    induction n with
    | zero =>
      intro i l o vars e h hR _
      obtain rfl : i = els.length := e
      refine oF h.hj h.hc ((hel o h.kp _ (Nat.le_refl _)).trans (by rw [List.getElem?_eq_none (Nat.le_refl _)])) (done l _ ((h.kp.set (Nat.le_refl _)).set (Nat.le_add_right _ _)) ((aM (by lia)).trans ((aM (by lia)).trans h.hD)) (Rk _ _ _ _ ?_ hR))
      exact (Tz.set h.hj fun _ q => by cases q).trans (Tz.set ((aM (by lia)).trans h.hc) fun _ q => by cases q)
    | succ n ih =>
      intro i l o vars e h hR hl
      have hi : i < els.length := by lia
      have ha := List.getElem?_eq_getElem hi
      refine mZ h.hj h.hc ((hel o h.kp _ (Nat.le_of_lt hi)).trans (congrArg some ha)) fun K1 hK1 => ?_
      have h2 := h.turn (put x els[i] vars)
      have hR2 := Rk _ _ _ _ (h.turnT (put x els[i] vars)) hR
      refine step i els[i] l _ C _ K1 _ ha h2.kp h2.hc lk0 hR2 (fun o' k' r' => ih (i + 1) l o' _ (by lia) (h2.keep k') r' (Nat.le_succ_of_le hl)) fun b o' k' r' => ?_
      have h3 := h2.keep k'
      exact hK1 b _ l h3.hD (by lia) (ih (i + 1) (l ++ [b]) _ _ (by lia) (h3.app _) (Rk _ _ _ _ (Tz.set h3.hD fun _ q => by cases q) r') (by rw [List.length_append]; exact Nat.succ_le_succ hl))
  refine loop els.length 0 [] _ [] (Nat.zero_add _) ⟨((Kp.app _ _ _).trans (Kp.app _ _ _)).trans (Kp.app _ _ _), ?_, ?_, ?_⟩ (R0 _) (Nat.le_refl _)
  · exact aT (aT (bf rfl))
  · exact aT (bf (by rw [List.length_append]; rfl))
  · exact bf (by rw [List.length_append, List.length_append]; rfl)
theorem oG {X : TE} {st : St} {K1 : AV → St → Prop} {K2 : St → Prop} (h : X st K1) : aB true st fun ok st1 => bif ok then X st1 K1 else K2 st1 := h
noncomputable def low (c : Nat) : Nat := if 65 ≤ c ∧ c ≤ 90 then c + 32 else c
theorem mw (a b : Nat) : decide (([a] : List Nat) < [b]) = decide (a < b) := by
  rw [Bool.eq_iff_iff, decide_eq_true_eq, decide_eq_true_eq]
  constructor
  · intro h
    cases h with
    | rel h => exact h
    | cons h => cases h
  · intro h; exact List.Lex.rel h
theorem qt (os : List AO) (x : List Nat) (i : Nat) (hi : i ≤ x.length) : cg tb os 0 (.str x) i = some ((x.map fun c => AV.str [c])[i]?) := by
  unfold cg
  rw [List.getElem?_map]
  dsimp only
  cases h : x[i]? with
  | some c => rfl
  | none =>
    have : i = x.length := by have := List.getElem?_eq_none_iff.mp h; lia
    subst this
    simp
theorem iH : ∀ x : List Nat, (x.map fun c => [low c]).flatten = x.map low
  | [] => rfl
  | a :: r => by rw [List.map_cons, List.flatten_cons, iH r]; rfl
theorem kP {os : List AO} {loc : List (Nat × AV)} {n : Nat} {x : List Nat} {k : AV → St → Prop} (hn : ag n loc = some (.str x)) (hx : x.length ≤ 40000) (hsm : ∀ c ∈ x, c ≤ 0x10FFFF) (h : ∀ os', Kp (fun _ => False) os os' → k (.str (x.map low)) ⟨loc, os'⟩) :
    aBM 1 d6 (ad (.str [])) [(dK tb (aa n) N.s (fun C j => (aB true)) (fun C j => (dw (cD tb .LtE .LtE (ad (.str [65])) (cN C j N.s) (ad (.str [90]))) (aW nQ [(cA .Add (aW jF [(cN C j N.s)]) (ad (.int 32)))]) (cN C j N.s))))] ⟨loc, os⟩ k := by
  refine mf aA rfl (gU (els := x.map fun c => AV.str [c]) (fun _ i l => l = (x.take i).map fun c => AV.str [low c]) (af hn) rfl (fun o _ i hi => qt o x i (by rw [List.length_map] at hi; exact hi)) (by rw [List.length_map]; exact Nat.le_trans hx (by decide)) (fun _ => rfl) (fun _ _ _ _ _ q => q) ?_ ?_)
  · intro i a l o C vars K1 K2 ha _ hc hl hR _ hK
    rw [List.getElem?_map] at ha
    obtain ⟨c, hic, rfl⟩ := Option.map_eq_some_iff.mp ha
    have hle := hsm c (List.mem_of_getElem? hic)
    have hv := gR (st := ⟨loc, o⟩) hc hl
    refine oG (Ev.run (b := AV.str [low c]) (st1 := ⟨loc, o⟩) ?_ (hK _ o (Kp.refl _ _) (by rw [hR, List.take_add_one, hic, List.map_append]; rfl)))
    have q1 : bz tb o .LtE (.str [65]) (.str [c]) = some (!decide (c < 65)) := congrArg (fun b => some (!b)) (mw c 65)
    have q2 : bz tb o .LtE (.str [c]) (.str [90]) = some (!decide (90 < c)) := congrArg (fun b => some (!b)) (mw 90 c)
    unfold low
    by_cases c1 : c < 65
    · rw [decide_eq_true c1] at q1
      rw [if_neg (by lia)]
      exact ky (iq aA hv q1) hv
    · rw [decide_eq_false c1] at q1
      by_cases c2 : 90 < c
      · rw [decide_eq_true c2] at q2
        rw [if_neg (by lia)]
        exact ky (fJ aA hv q1 aA q2) hv
      · rw [decide_eq_false c2] at q2
        rw [if_pos (by lia)]
        have e4 : ((c : Int) + 32).toNat = c + 32 := by lia
        refine n9 (fJ aA hv q1 aA q2) (df (os' := o) (bi (dC (r := .int ((c : Int) + 32)) (df (os' := o) (a := .int c) (bi hv) fun _ h => lx h) aA rfl)) fun K h => ⟨_, rfl, ?_, by rw [e4]; exact h⟩)
        rw [decide_eq_false (by lia), decide_eq_false (by lia)]; rfl
  · intro l o kp hD hR
    refine jZ (x := []) (ps := x.map fun c => [low c]) (hD.trans ?_) ?_ ?_
    · rw [hR, List.length_map, List.take_length, List.map_map]; rfl
    · rw [fL, iH, List.length_map]; show x.length + _ * 0 ≤ _; lia
    · rw [jY, iH]; exact h o kp
theorem gM {os : List AO} {x : List Nat} {k : AV → List AO → Prop} (hx : x.length ≤ 40000) (hsm : ∀ c ∈ x, c ≤ 0x10FFFF) (h : ∀ os', Kp (fun _ => False) os os' → k (.str (x.map low)) os') : F.asciiLower [.str x] os k := by
  refine bW (loc := [(N.A, .str x)]) rfl ?_
  unfold T.asciiLower
  exact kO (kP (aE _ _ _) hx hsm fun os' hk => h os' hk)
theorem kQ (a b : Int) (x : List Nat) : bv (a + 1, b) x = ((bv (a, b) x).1 + 1, (bv (a, b) x).2) := by
  revert x
  refine mt rfl ?_
  intro x c ih
  rw [cW, cW, ih]
  unfold adv
  split <;> rfl
theorem lA {os : List AO} {x : List Nat} {u : Nat} {k : AV → List AO → Prop} (hx : x.length ≤ 40000)
    (h : ∀ os' i, Kp (fun _ => False) os os' → os.length ≤ i → os'[i]? = some (.tup [.int ((bv (0, 0) (x.take u)).1 + 1), .int (bv (0, 0) (x.take u)).2]) → k (.obj i) os') : F.ulaw_place [.str x, .int u] os k := by
  refine bW (loc := [(N.o, .str x), (N.v, .int u)]) rfl (aO (bR aA) (aO (bR aA) (mi (eE (af rfl) fi (cV (af rfl)) (eF (u := none) (v := some u) (Nat.ble_eq_true_of_le (by lia)))) ⟨(x.take u).length + 1, ?_⟩)))
  rw [qR]
  generalize x.take u = y at h
  refine kG (x := y) (fun i st => ag N.ae st.loc = some (.int (bv (1, 0) (y.take i)).1) ∧ ag N.al st.loc = some (.int (bv (1, 0) (y.take i)).2) ∧ Kz os st.objs) ?_ ?_ y.length 0 _ (Nat.zero_add _) ⟨rfl, rfl, Kp.app _ _ _⟩ (bf rfl)
  · intro i c st K hc ⟨h1, h2, h3⟩ hj hK
    have et : y.take (i + 1) = y.take i ++ [c] := by rw [List.take_add_one, hc]; rfl
    rw [et, cW] at hK
    have hj2 := aQ (X := AO.iter 0 (AV.str y) (i + 1)) (ax hj)
    have hkp : Kz os (st.objs.set os.length (AO.iter 0 (AV.str y) (i + 1))) := h3.set (Nat.le_refl _)
    generalize bv (1, 0) (y.take i) = p at h1 h2 hK
    refine mh (aO (jM (lk rfl h2) aA rfl) ?_)
    unfold adv at hK
    by_cases h10 : c = 10
    · subst h10
      rw [if_pos rfl] at hK
      refine cS (be (af (lk rfl lk0)) aA rfl) (bA (aO (jM (lk rfl (lk rfl h1)) aA rfl) (bA (aO (bR aA) ?_))))
      exact hK _ hj2 ⟨lk rfl lk0, lk0, hkp⟩
    · rw [if_neg h10] at hK
      refine cX (be (af (lk rfl lk0)) aA (congrArg some (decide_eq_false fun q => h10 (List.cons.inj q).1))) ?_
      exact hK _ hj2 ⟨lk rfl (lk rfl h1), lk0, hkp⟩
  · rintro st ⟨h1, h2, h3⟩ hj
    rw [List.take_length] at h1 h2
    refine eQ (dW (bI (af h1) (bi (af h2))) rfl) (h _ _ ((h3.set (Nat.le_refl _)).trans (Kp.app _ _ _)) ?_ ?_)
    · show _ ≤ (st.objs.set os.length gone).length
      rw [List.length_set]; exact h3.1
    · refine (bf rfl).trans ?_
      rw [show ((1 : Int), (0 : Int)) = (0 + 1, 0) from rfl, kQ]
noncomputable def qu (b : Bool) : List Nat := if b then [121, 101, 115] else [110, 111]
theorem m5 {os : List AO} {b : Bool} {k : AV → List AO → Prop} (h : k (.str (qu b)) os) : F.ulaw_flag [.bool b] os k := by
  refine bW (loc := [(N.ay, .bool b)]) rfl ?_
  cases b <;> exact h
noncomputable def bX : Tok → List AV
  | .plain kd d => [.int kd, .str d]
  | .doc => [.int 0, .str [], .none, .none, .bool true]
  | .tag kd nm n sc d => [.int kd, .str nm, .int n, .str (qu sc), .bool d]
theorem bK {kd : Int} {nm : List Nat} {dl : Nat} {sc ack : Bool} : free (cO kd nm dl sc ack) = true := by cases ack <;> rfl
theorem iI {B : Nat → Prop} {os : List AO} {a : AV} {tk : Tok} {k : AV → List AO → Prop} (ht : TokAt B os a tk) (h : k (.obj os.length) (os ++ [.tup (bX tk)])) : F.ulaw_token [a] os k := by
  refine bW (loc := [(N.j, a)]) rfl ?_
  have s0 : ∀ (t : List Nat) (kk : Int), cQ tb os (.glob (.ref 48)) (.str t) = some (.int kk) → ∀ (kd : Int) p, decide (kd = kk) = p → ∀ loc, ag N.n loc = some (.int kd) → Ev (aq tb .Eq (aa N.n) (aU tb (ad (.glob (.ref 48))) (ad (.str t)))) ⟨loc, os⟩ p ⟨loc, os⟩ := fun t kk q kd p e loc hl =>
    be (af hl) (ey aA aA q) (congrArg some e)
  have s1 := s0 [83, 116, 97, 114, 116, 84, 97, 103] 3 rfl
  have s2 := s0 [69, 110, 100, 84, 97, 103] 4 rfl
  have s3 := s0 [68, 111, 99, 116, 121, 112, 101] 0 rfl
  cases tk with
  | plain kd d =>
    obtain ⟨i, fs, rfl, h1, _, h3, h4, h5, h6, h7, h8⟩ := ht
    exact aO (bR (dc (af rfl) h1 h3 h4)) (cX (eB (s1 _ _ (decide_eq_false h7) _ rfl) (eB (s2 _ _ (decide_eq_false h8) _ rfl) n8)) (ar (cX (s3 _ _ (decide_eq_false h6) _ rfl) (ar (eQ (dW (bI (af rfl) (bi (dc (af rfl) h1 h3 h5))) rfl) h)))))
  | doc =>
    obtain ⟨i, rfl, h1, _⟩ := ht
    have it := fun n a (q : ag n mv = some a) => dc (E := aa N.j) (st := ⟨[(N.j, .obj i), (N.n, .int 0)], os⟩) (af rfl) h1 rfl q
    exact aO (bR (dc (af rfl) h1 rfl rfl)) (cX (eB (s1 0 false rfl _ rfl) (eB (s2 0 false rfl _ rfl) n8)) (ar (cS (s3 0 true rfl _ rfl) (bA (eQ (dW (bI (af rfl) (bI (it _ _ rfl) (bI (it _ _ rfl) (bI (it _ _ rfl) (bi (it _ _ rfl)))))) rfl) h)))))
  | tag kd nm n sc d =>
    obtain ⟨i, dl, ack, rfl, h1, _, _, hkd, hn, _, h6⟩ := ht
    have it := fun n a (q : ag n (cO kd nm dl sc ack) = some a) => dc (E := aa N.j) (st := ⟨[(N.j, .obj i), (N.n, .int kd)], os⟩) (af rfl) h1 bK q
    have hl : ∀ K : AV → List AO → Prop, K (.int n) os → eT [.obj dl] os K := fun K hK => by
      cases d with
      | true => obtain ⟨rfl, h7⟩ := h6; exact jf h7 hK
      | false => obtain ⟨l, rfl, h7⟩ := h6; exact mn h7 (by lia) hK
    have hd : ∀ K : AV → List AO → Prop, K (.bool d) os → jG [.obj dl, .glob (.type "dict")] os K := fun K hK => by
      cases d with
      | true => exact ⟨_, _, rfl, .dict _ h6.2, hK⟩
      | false => obtain ⟨l, _, h7⟩ := h6; exact ⟨_, _, rfl, .list _ h7, hK⟩
    refine aO (bR (dc (af rfl) h1 bK rfl)) (cS ?_ (bA (eQ (dW (bI (af rfl) (bI (it _ _ rfl) (bI (df (os' := os) (bi (it _ _ rfl)) hl) (bI (df (os' := os) (bi (it _ _ rfl)) fun K hK => m5 hK) (bi (df (os' := os) (bI (it _ _ rfl) (bi aA)) hd)))))) rfl) h)))
    rcases hkd with rfl | rfl
    · exact jL (s1 3 true rfl _ rfl)
    · exact eB (s1 4 false rfl _ rfl) (jL (s2 4 true rfl _ rfl))
noncomputable def Told (os : List AO) : List AV → List Tok → Prop
  | [], [] => True
  | a :: r, k :: q => (∃ i, a = .obj i ∧ os[i]? = some (.tup (bX k))) ∧ Told os r q
  | _, _ => False
theorem Told.snoc {os : List AO} {a : AV} {k : Tok} (ha : ∃ i, a = .obj i ∧ os[i]? = some (.tup (bX k))) : ∀ {l : List AV} {q : List Tok}, Told os l q → Told os (l ++ [a]) (q ++ [k])
  | [], [], _ => ⟨ha, trivial⟩
  | _ :: _, _ :: _, ⟨h, r⟩ => ⟨h, r.snoc ha⟩
  | [], _ :: _, h => h.elim
  | _ :: _, [], h => h.elim
theorem Told.keep {os os' : List AO} (hk : ∀ (j : Nat) (v : List AV), os[j]? = some (AO.tup v) → os'[j]? = some (AO.tup v)) : ∀ {l : List AV} {q : List Tok}, Told os l q → Told os' l q
  | [], [], _ => trivial
  | _ :: _, _ :: _, ⟨⟨i, e, h⟩, r⟩ => ⟨⟨i, e, hk _ _ h⟩, r.keep hk⟩
  | [], _ :: _, h => h.elim
  | _ :: _, [], h => h.elim
theorem Toks.get {B : Nat → Prop} {os : List AO} : ∀ {Q : List AV} {q : List Tok} {i : Nat} {a : AV}, Toks B os Q q → Q[i]? = some a → ∃ k, q[i]? = some k ∧ TokAt B os a k
  | a :: _, k :: _, 0, _, ⟨h, _⟩, e => by cases e; exact ⟨k, rfl, h⟩
  | _ :: _, _ :: _, i + 1, _, ⟨_, r⟩, e => by obtain ⟨k, h1, h2⟩ := r.get (i := i) e; exact ⟨k, h1, h2⟩
  | [], _, _, _, _, e => by cases e
  | _ :: _, [], _, _, h, _ => h.elim
theorem lB {O : Nat → Prop} {os : List AO} {t : Nat} {T : Ts} {k : AV → List AO → Prop} (h : TV O os t T) (hq : T.q.length ≤ 9000)
    (hk : ∀ os' D l, Kp (fun _ => False) os os' → os.length ≤ D → os'[D]? = some (.list l) → Told os' l T.q → k (.obj D) os') : F.ulaw_queue [.obj t] os k := by
  obtain ⟨Os, l4, m, Q, h⟩ := h
  have hl := h.toks.len
  refine bW (loc := [(N.c, .obj t)]) rfl (kO (gU (els := Q) (fun o i l => Told o l (T.q.take i)) (aV (af rfl) h.inst t4 rfl rfl) (jg h.que) (fun o kp i hi => qs (kp.at h.que id) hi) (by lia) (fun _ => trivial) (fun _ _ _ _ hz hR => hR.keep hz) ?_ ?_))
  · intro i a l o C vars K1 K2 ha kp hc hv hR _ hK
    obtain ⟨tk, htk, hta⟩ := h.toks.get ha
    refine oG (f9 (bi (gR hc hv)) (iI (hta.keep (B' := Bq O Os T.qi) fun j X hB hX _ => ⟨kp.at hX id, hB⟩) (hK _ _ (Kp.app _ _ _) ?_)))
    rw [List.take_add_one, htk]
    exact Told.snoc ⟨_, rfl, bf rfl⟩ (hR.keep fun _ _ hj => aT hj)
  · intro l o kp hD hR
    rw [hl, List.take_length] at hR
    exact hk o _ l kp (Nat.le_succ _) hD hR
section
variable {O Os : Nat → Prop} {os : List AO} {t : Nat} {T : Ts} {l4 m : Nat} {Q : List AV} {loc : List (Nat × AV)}
theorem Toks.ref {B : Nat → Prop} {os : List AO} : ∀ {Q : List AV} {q : List Tok}, Toks B os Q q → ∀ a ∈ Q, ∃ i, a = .obj i ∧ B i
  | a :: r, k :: q, ⟨h, hr⟩, b, hb => by
    rcases List.mem_cons.mp hb with rfl | hb
    · cases k with
      | plain kd d => obtain ⟨i, fs, e, _, h2, _⟩ := h; exact ⟨i, e, h2⟩
      | doc => obtain ⟨i, e, _, h2⟩ := h; exact ⟨i, e, h2⟩
      | tag kd nm nn sc d => obtain ⟨i, dl, ack, e, _, h2, _⟩ := h; exact ⟨i, e, h2⟩
    · exact hr.ref b hb
  | [], [], _, _, hb => by cases hb
  | [], _ :: _, h, _, _ => h.elim
  | _ :: _, [], h, _, _ => h.elim
theorem d9 {E : TE} {tk : Tok} {r : List AO} {x : Nat} {b : Bool} {k : AF → St → Prop} (h : TV O os t T) (hx : ag x loc = some (.obj t)) (hE : ∀ K : AV → St → Prop, K (.obj os.length) ⟨loc, os ++ r⟩ → E ⟨loc, os⟩ K)
    (ht : TokAt (fun j => os.length ≤ j ∧ j < os.length + r.length) (os ++ r) (.obj os.length) tk) (hb : b = true → ∀ k ∈ T.q, ∃ kd d, k = .plain kd d)
    (hk : ∀ O' os', Grow O os O' os' → TV O' os' t { T with cur := some tk, ca := .obj os.length, sep := b } → k .next ⟨loc, os'⟩) : ah N.m E (aa x) ⟨loc, os⟩ k := by
  obtain ⟨Os, l4, m, Q, h⟩ := h
  have h1 := h.app r
  have hl := ax h1.inst
  have hl0 := ax h.inst
  unfold ah
  refine hE _ ?_
  simp (disch := decide) only [aa, hx, cI _ h1.inst t3 rfl, ba, fh]
  have hnO : ∀ j, os.length ≤ j → ¬ O j := fun j hj q => by have := h.bnd j q; lia
  have sB : gy (Bq O Os T.qi) (Bq (fun j => O j ∨ os.length ≤ j ∧ j < os.length + r.length) Os T.qi) (os ++ r) ((os ++ r).set t (.inst 762 (Tfs T.s l4 m (.obj os.length) T.qi))) := fun j X hB hj hs =>
    let ⟨a, b⟩ := gh (B := Bq O Os T.qi) h1.inst (gT h1.inst (by simp) (by simp)) j X hB hj hs
    ⟨a, .inl b.1, b.2⟩
  have sN : gy (fun j => os.length ≤ j ∧ j < os.length + r.length) (Bq (fun j => O j ∨ os.length ≤ j ∧ j < os.length + r.length) Os T.qi) (os ++ r) ((os ++ r).set t (.inst 762 (Tfs T.s l4 m (.obj os.length) T.qi))) := fun j X hB hj hs =>
    ⟨by rw [aM (by lia)]; exact hj, .inr hB, fun q => hnO j hB.1 (h.sub _ q), fun q => hnO j hB.1 (q ▸ h.bQ.1)⟩
  refine hk (fun j => O j ∨ os.length ≤ j ∧ j < os.length + r.length) _ ⟨⟨by simp, fun j hj hn => ?_⟩, fun j hj => .inl hj, fun j hj => hj.imp id fun q => q.1⟩ ⟨Os, l4, m, Q, { h1 with inst := aQ hl, meth := ?_, que := ?_, bT := ⟨.inl h.bT.1, h.bT.2⟩, bM := ⟨.inl h.bM.1, h.bM.2⟩, bQ := ⟨.inl h.bQ.1, h.bQ.2⟩, toks := h1.toks.keep sB, cur := TokAt.keep ht sN, sv := ?_, sub := fun j hj => .inl (h.sub j hj), bnd := ?_, sep := ?_ }⟩
  · have : j ≠ t := fun q => hn (q ▸ h.bT.1)
    rw [aM (fun q => this q.symm), dq hj]
  · rw [aM (aP h.inst h.meth (by simp))]; exact h1.meth
  · rw [aM (aP h.inst h.que (by simp))]; exact h1.que
  · exact h1.sv.keep (O' := fun j => j = t) (Kp.set rfl) fun j hj q => h.bT.2 (q ▸ hj)
  · intro j hj
    rw [List.length_set, List.length_append]
    rcases hj with hj | hj
    · have := h.bnd j hj; lia
    · exact hj.2
  · intro hs
    refine ⟨fun a ha => ?_, hb hs⟩
    obtain ⟨i, rfl, hB⟩ := h.toks.ref a ha
    intro e
    cases e
    exact hnO _ (Nat.le_refl _) hB.1
theorem Toks.sep {B : Nat → Prop} {c : Nat} {X : AO} : ∀ {Q : List AV} {q : List Tok}, Toks B os Q q → (∀ a ∈ Q, a ≠ .obj c) → (∀ k ∈ q, ∃ kd d, k = .plain kd d) → Toks B (os.set c X) Q q
  | [], [], _, _, _ => trivial
  | a :: _, k :: _, ⟨h, hr⟩, h1, h2 => by
    obtain ⟨kd, d, rfl⟩ := h2 k (.head _)
    obtain ⟨i, fs, e, g1, r⟩ := h
    refine ⟨⟨i, fs, e, ?_, r⟩, hr.sep (fun a ha => h1 a (.tail _ ha)) fun k hk => h2 k (.tail _ hk)⟩
    have : i ≠ c := fun q => h1 a (.head _) (by rw [e, q])
    rw [aM (fun q => this q.symm)]; exact g1
  | [], _ :: _, h, _, _ => h.elim
  | _ :: _, [], h, _, _ => h.elim
theorem TVx.mutCur {c : Nat} {fs X : List (Nat × AV)} {tk : Tok} (h : TVx O Os os t T l4 m Q) (hs : T.sep = true) (hca : T.ca = .obj c) (hc : os[c]? = some (.dict fs)) (hB : Bq O Os T.qi c) (ht : TokAt (Bq O Os T.qi) (os.set c (.dict X)) (.obj c) tk) :
    TVx O Os (os.set c (.dict X)) t { T with cur := some tk } l4 m Q := by
  obtain ⟨s1, s2⟩ := h.sep hs
  exact { h with inst := by rw [aM (aP hc h.inst (by simp))]; exact h.inst
                 meth := by rw [aM (aP hc h.meth (by simp))]; exact h.meth
                 que := by rw [aM (aP hc h.que (by simp))]; exact h.que
                 toks := h.toks.sep (fun a ha e => s1 a ha (e.trans hca.symm)) s2
                 cur := by show TokAt _ _ T.ca tk; rw [hca]; exact ht
                 sv := h.sv.keep (O' := fun j => j = c) (Kp.set rfl) fun j hj q => hB.2.1 (q ▸ hj)
                 bnd := fun j hj => by rw [List.length_set]; exact h.bnd j hj }
theorem eG {kd : Int} {nm : List Nat} {dl : Nat} {sc ack : Bool} : Nat.ble (cO kd nm dl sc ack).length 100 = true := by cases ack <;> rfl
structure TagAt (B : Nat → Prop) (os : List AO) (c dl : Nat) (ack : Bool) (kd : Int) (nm : List Nat) (n : Nat) (sc d : Bool) : Prop where
  hc : os[c]? = some (.dict (cO kd nm dl sc ack))
  bc : B c
  bd : B dl
  hkd : kd = 3 ∨ kd = 4
  hn : n ≤ 1000
  hnm : nm.length ≤ 9000
  dat : match d with
    | true => n = 0 ∧ os[dl]? = some (.dict [])
    | false => ∃ l, l.length = n ∧ os[dl]? = some (.list l)
theorem TagAt.tok {B : Nat → Prop} {c dl : Nat} {ack : Bool} {kd : Int} {nm : List Nat} {n : Nat} {sc d : Bool} (h : TagAt B os c dl ack kd nm n sc d) : TokAt B os (.obj c) (.tag kd nm n sc d) := ⟨c, dl, ack, rfl, h.hc, h.bc, h.bd, h.hkd, h.hn, h.hnm, h.dat⟩
theorem j1 {B : Nat → Prop} {a : AV} {kd : Int} {nm : List Nat} {n : Nat} {sc d : Bool} (h : TokAt B os a (.tag kd nm n sc d)) : ∃ c dl ack, a = .obj c ∧ TagAt B os c dl ack kd nm n sc d := by
  obtain ⟨c, dl, ack, e, h1, h2, h3, h4, h5, h6, h7⟩ := h
  exact ⟨c, dl, ack, e, ⟨h1, h2, h3, h4, h5, h6, h7⟩⟩
theorem TagAt.itm {B : Nat → Prop} {c dl : Nat} {ack : Bool} {kd : Int} {nm : List Nat} {n : Nat} {sc d : Bool} (h : TagAt B os c dl ack kd nm n sc d) : dI N.h os (.obj c) = some (.int kd) ∧ dI N.k os (.obj c) = some (.str nm) ∧ dI N.b os (.obj c) = some (.obj dl) ∧ dI N.K os (.obj c) = some (.bool sc) := ⟨gw h.hc bK rfl, gw h.hc bK rfl, gw h.hc bK rfl, gw h.hc bK rfl⟩
theorem TagAt.set {B : Nat → Prop} {c dl : Nat} {ack : Bool} {kd : Int} {nm : List Nat} {n : Nat} {sc d : Bool} (h : TagAt B os c dl ack kd nm n sc d) : (∀ v, cR N.k (.str v) os (.obj c) = some (os.set c (.dict (cO kd v dl sc ack)))) ∧ (∀ v, cR N.b (.obj v) os (.obj c) = some (os.set c (.dict (cO kd nm v sc ack)))) ∧ (∀ v, cR N.K (.bool v) os (.obj c) = some (os.set c (.dict (cO kd nm dl v ack)))) := ⟨fun _ => d8 h.hc bK eG, fun _ => d8 h.hc bK eG, fun _ => d8 h.hc bK eG⟩
theorem TagAt.put {B : Nat → Prop} {c dl : Nat} {ack : Bool} {kd : Int} {nm nm' : List Nat} {n : Nat} {sc sc' d : Bool} (h : TagAt B os c dl ack kd nm n sc d) (hn : nm'.length ≤ 9000) : TagAt B (os.set c (.dict (cO kd nm' dl sc' ack))) c dl ack kd nm' n sc' d := by
  refine ⟨aQ (ax h.hc), h.bc, h.bd, h.hkd, h.hn, hn, ?_⟩
  have hd := h.dat
  have ne : c = dl → n = 0 ∧ d = true ∧ False := by
    rintro rfl
    cases d with
    | true => have := hd.2; rw [h.hc] at this; cases this
    | false => obtain ⟨l, _, h2⟩ := hd; rw [h.hc] at h2; cases h2
  have ne' : c ≠ dl := fun q => (ne q).2.2
  cases d with
  | true => exact ⟨hd.1, by rw [aM ne']; exact hd.2⟩
  | false => obtain ⟨l, h1, h2⟩ := hd; exact ⟨l, h1, by rw [aM ne']; exact h2⟩
theorem mx {k : AF → St → Prop} {V : TE} {kd : Int} {nm v : List Nat} {n : Nat} {sc d : Bool} (h : TV O os t T) (hself : ag N.a loc = some (.obj t)) (hc : T.cur = some (.tag kd nm n sc d)) (hs : T.sep = true) (hV : ∀ K : AV → St → Prop, K (.str v) ⟨loc, os⟩ → V ⟨loc, os⟩ K) (hl : nm.length + v.length ≤ 9000)
    (hk : ∀ os', Grow O os O os' → TV O os' t { T with cur := some (.tag kd (nm ++ v) n sc d) } → k .next ⟨loc, os'⟩) : fY N.k .Add (ak N.m (aa N.a)) V ⟨loc, os⟩ k := by
  obtain ⟨Os, l4, m, Q, h⟩ := h
  have hcur := h.cur
  rw [hc] at hcur
  obtain ⟨c, dl, ack, hca, ha⟩ := j1 hcur
  have h0 := h.inst
  rw [hca] at h0
  exact pQ (aV (af hself) h0 t3 rfl rfl) ha.hc bK rfl hV (pP (by lia)) ha.hc eG _ (hk _ (Grow.of (Kp.set ha.bc.1)) ⟨Os, l4, m, Q, h.mutCur hs hca ha.hc ha.bc (ha.put (by rw [List.length_append]; exact hl)).tok⟩)
theorem oH {k : AF → St → Prop} {kd : Int} {nm : List Nat} {n : Nat} {sc d : Bool} (h : TV O os t T) (hself : ag N.a loc = some (.obj t)) (hc : T.cur = some (.tag kd nm n sc d)) (hs : T.sep = true)
    (hk : ∀ os', Grow O os O os' → TV O os' t { T with cur := some (.tag kd nm n true d) } → k .next ⟨loc, os'⟩) : dJ N.K (ad (.bool true)) (ak N.m (aa N.a)) ⟨loc, os⟩ k := by
  obtain ⟨Os, l4, m, Q, h⟩ := h
  have hcur := h.cur
  rw [hc] at hcur
  obtain ⟨c, dl, ack, hca, ha⟩ := j1 hcur
  have h0 := h.inst
  rw [hca] at h0
  exact jR aA (aV (af hself) h0 t3 rfl rfl) ha.hc bK eG _ (hk _ (Grow.of (Kp.set ha.bc.1)) ⟨Os, l4, m, Q, h.mutCur hs hca ha.hc ha.bc (ha.put ha.hnm).tok⟩)
theorem gV {k : AF → St → Prop} {V : TE} {kd : Int} {nm : List Nat} {v : AV} {n : Nat} {sc : Bool} (h : TV O os t T) (hself : ag N.a loc = some (.obj t)) (hc : T.cur = some (.tag kd nm n sc false)) (hs : T.sep = true) (hn : n < 1000) (hV : ∀ os' (K : AV → St → Prop), K v ⟨loc, os'⟩ → V ⟨loc, os'⟩ K)
    (hk : ∀ os', Grow O os O os' → TV O os' t { T with cur := some (.tag kd nm (n + 1) sc false) } → k .next ⟨loc, os'⟩) : aK (aBM 2 bP (dB N.b (ak N.m (aa N.a))) [(cx [V, (ad (.str []))])]) ⟨loc, os⟩ k := by
  obtain ⟨Os, l4, m, Q, h⟩ := h
  have hcur : TokAt (Bq O Os T.qi) os T.ca (.tag kd nm n sc false) := by have := h.cur; rw [hc] at this; exact this
  obtain ⟨c, dl, ack, hca, ha⟩ := j1 (d := false) hcur
  obtain ⟨l, hl, hdl⟩ := ha.dat
  have hdl' : (os ++ [AO.list [v, .str []]])[dl]? = some (.list l) := aT hdl
  have h0 := h.inst
  rw [hca] at h0
  refine ir (dc (aV (af hself) h0 t3 rfl rfl) ha.hc bK rfl) (lw (bI (hV _) (bi aA)) rfl) hdl hdl' (by lia) _ ?_
  have h1 := h.app [AO.list [v, .str []]]
  have hc' : (os ++ [AO.list [v, .str []]])[c]? = some (.dict (cO kd nm dl sc ack)) := aT ha.hc
  obtain ⟨s1, s2⟩ := h.sep hs
  have hq : ∀ {Q : List AV} {q : List Tok}, Toks (Bq O Os T.qi) (os ++ [AO.list [v, .str []]]) Q q → (∀ k ∈ q, ∃ kd d, k = .plain kd d) → Toks (Bq O Os T.qi) ((os ++ [AO.list [v, .str []]]).set dl (.list (l ++ [.obj os.length]))) Q q := by
    intro Q
    induction Q with
    | nil => intro q h _; cases q with
      | nil => trivial
      | cons _ _ => exact h.elim
    | cons a r ih => intro q h h2; cases q with
      | nil => exact h.elim
      | cons k q =>
        obtain ⟨kd, d, rfl⟩ := h2 k (.head _)
        obtain ⟨⟨i, fs, e, g1, rr⟩, hr⟩ := h
        exact ⟨⟨i, fs, e, by rw [aM (aP hdl' g1 (by simp))]; exact g1, rr⟩, ih hr fun k hk => h2 k (.tail _ hk)⟩
  refine hk _ (Grow.of ⟨by simp, fun j hj hn => ?_⟩) ⟨Os, l4, m, Q, { h1 with inst := ?_, meth := ?_, que := ?_, toks := hq h1.toks s2, cur := ?_, sv := ?_, bnd := ?_ }⟩
  · rw [aM (fun q : dl = j => hn (q ▸ ha.bd.1)), dq hj]
  · rw [aM (aP hdl' h1.inst (by simp))]; exact h1.inst
  · rw [aM (aP hdl' h1.meth (by simp))]; exact h1.meth
  · rw [aM ha.bd.2.2]; exact h1.que
  · refine (?_ : TokAt (Bq O Os T.qi) ((os ++ [AO.list [v, .str []]]).set dl (.list (l ++ [.obj os.length]))) T.ca (.tag kd nm (n + 1) sc false))
    rw [hca]
    refine ⟨c, dl, ack, rfl, ?_, ha.bc, ha.bd, ha.hkd, by lia, ha.hnm, _, ?_, aQ (ax hdl')⟩
    · rw [aM (aP hdl' hc' (by simp))]; exact hc'
    · simp; lia
  · exact h1.sv.keep (O' := fun j => j = dl) (Kp.set rfl) fun j hj q => ha.bd.2.1 (q ▸ hj)
  · intro j hj
    rw [List.length_set]; exact h1.bnd j hj
end
section
variable {O Os : Nat → Prop} {os : List AO} {t : Nat} {T : Ts} {l4 m : Nat} {Q : List AV} {loc : List (Nat × AV)}
theorem TV.queueCur {tk : Tok} {k : AV → List AO → Prop} (h : TV O os t T) (hc : T.cur = some tk) (hq : T.q.length ≤ 9000)
    (hk : ∀ os', Grow O os O os' → TV O os' t { T with q := T.q ++ [tk], sep := false } → k .none os') : bP [.obj T.qi, T.ca] os k := by
  obtain ⟨Os, l4, m, Q, h⟩ := h
  have hl := h.toks.len
  have b1 : Nat.ble Q.length 100000 = true := Nat.ble_eq_true_of_le (by lia)
  refine ⟨_, _, _, rfl, h.que, Nat.le_of_ble_eq_true b1, ?_⟩
  have stay : gy (Bq O Os T.qi) (Bq O Os T.qi) os (os.set T.qi (.list (Q ++ [T.ca]))) := fun j X hB hj _ => ⟨by rw [aM (fun q => hB.2.2 q.symm)]; exact hj, hB⟩
  have hcur := h.cur
  have hcur2 : TokAt (Bq O Os T.qi) os T.ca tk := by rw [hc] at hcur; exact hcur
  refine hk _ (Grow.of (Kp.set h.bQ.1)) ⟨Os, l4, m, Q ++ [T.ca], { h with inst := ?_, meth := ?_, que := aQ (ax h.que), toks := Toks.snoc (hcur2.keep stay) (h.toks.keep stay), cur := hcur.keep stay, sv := ?_, bnd := ?_, sep := fun q => Bool.noConfusion q }⟩
  · rw [aM (aP h.que h.inst (by simp))]; exact h.inst
  · rw [aM (aP h.que h.meth (by simp))]; exact h.meth
  · exact h.sv.keep (O' := fun j => j = T.qi) (Kp.set rfl) fun j hj q => h.bQ.2 (q ▸ hj)
  · intro j hj
    rw [List.length_set]; exact h.bnd j hj
noncomputable def my : List Nat := [115, 101, 108, 102, 45, 99, 108, 111, 115, 105, 110, 103, 45, 102, 108, 97, 103, 45, 111, 110, 45, 101, 110, 100, 45, 116, 97, 103]
noncomputable def dH (kd : Int) (sc : Bool) : List Tok := if kd = 4 ∧ sc = true then [.plain 7 my] else []
noncomputable def ch (kd : Int) (nm : List Nat) (sc : Bool) : Tok := .tag kd (nm.map low) 0 sc (decide (kd = 3))
theorem me1 : cw 762 N.aw cr = some 297 := by kernel_rfl
theorem me2 : cw 762 N.F cr = some 304 := by kernel_rfl
theorem p5 {os : List AO} {kd : Int} (h : kd = 3 ∨ kd = 4) : bz tb os .In (.int kd) (.glob (.ref 49)) = some true := by
  rcases h with rfl | rfl <;> rfl
noncomputable def T.emF : TS := (ae (aK (aBM 2 bP (ak N.g (aa N.a)) [(aa N.j)])) (ae (ah N.i (bg N.F (aa N.a)) (aa N.a)) aj))
theorem iJ {c : Nat} {tk : Tok} {k : AF → St → Prop} (l1 : ag N.a loc = some (.obj t)) (l2 : ag N.j loc = some (.obj c)) (h : TV O os t T) (hca : T.ca = .obj c) (hc : T.cur = some tk) (hq : T.q.length ≤ 9000)
    (hk : ∀ O' os', Grow O os O' os' → TV O' os' t { T with q := T.q ++ [tk], st := 304, sep := false } → k .next ⟨loc, os'⟩) : _root_.Mine.T.emF ⟨loc, os⟩ k := by
  have h' := h
  obtain ⟨Os, l4, m, Q, h⟩ := h
  refine om (kz (aV (af l1) h.inst t4 rfl rfl) (by show (match os[T.qi]? with | some (.list _) => 2 | _ => 0) = 2; rw [h.que]) (bi (af l2)) ?_)
  rw [← hca]
  refine h'.queueCur hc hq fun os3 g3 h3 => ?_
  refine aF fun K hK => aG h3 l1 me2 (fun _ _ _ _ _ => rfl) fun O4 os4 g4 h4 => hK _ ?_
  exact hk O4 os4 (g3.trans g4) h4
theorem j2 {k : AF → St → Prop} {kd : Int} {nm : List Nat} {sc : Bool} (h : TV O os t T) (hself : ag N.a loc = some (.obj t)) (hc : T.cur = some (.tag kd nm 0 sc false)) (hs : T.sep = true) (hq : T.q.length ≤ 8000) (hsm : ∀ c ∈ nm, c ≤ 0x10FFFF)
    (hk : ∀ O' os', Grow O os O' os' → TV O' os' t { T with cur := some (ch kd nm sc), q := T.q ++ dH kd sc ++ [ch kd nm sc], st := 304, sep := false } → k .next ⟨loc, os'⟩) :
    aK (aI N.aw 297 F.emitCurrentToken (aa N.a) []) ⟨loc, os⟩ k := by
  obtain ⟨Os, l4, m, Q, h⟩ := h
  have hcur : TokAt (Bq O Os T.qi) os T.ca (.tag kd nm 0 sc false) := by have := h.cur; rw [hc] at this; exact this
  obtain ⟨c, dl, ack, hca, ha⟩ := j1 (d := false) hcur
  have hkd := ha.hkd
  have h0 := h.inst
  rw [hca] at h0
  refine fj (K := fun _ st' => k .next st') (af hself) h.inst rfl me1 dz (bW (loc := [(N.a, .obj t)]) rfl ?_)
  refine aO (bR (aV (af rfl) h0 t3 rfl rfl)) (cS (be (dc (af rfl) ha.hc bK rfl) aA (p5 hkd)) (bA (qZ (f9 (bi (dc (af rfl) ha.hc bK rfl)) (gM (by have := ha.hnm; lia) hsm fun os1 hk1 => ?_)))))
  have h1 := h.other (P := fun _ => False) hk1 fun _ _ q => q
  obtain ⟨l, hl0, hdl⟩ := ha.dat
  obtain rfl : l = [] := List.length_eq_zero_iff.mp hl0
  have ha1 : TagAt (Bq O Os T.qi) os1 c dl ack kd nm 0 sc false := ⟨hk1.at ha.hc id, ha.bc, ha.bd, ha.hkd, ha.hn, ha.hnm, [], rfl, hk1.at hdl id⟩
  have ha2 := ha1.put (nm' := nm.map low) (sc' := sc) (by rw [List.length_map]; exact ha.hnm)
  have h2 := h1.mutCur hs hca ha1.hc ha1.bc ha2.tok
  have g2 : Grow O os O (os1.set c (.dict (cO kd (nm.map low) dl sc ack))) := (Grow.of (hk1.sub fun _ q => q.elim)).trans (Grow.of (Kp.set ha.bc.1))
  refine aO (jR aA (af rfl) ha1.hc bK eG) ?_
  show ae _ _ ⟨_, os1.set c (.dict (cO kd (nm.map low) dl sc ack))⟩ _
  generalize os1.set c (.dict (cO kd (nm.map low) dl sc ack)) = os2 at ha2 h2 g2 ⊢
  have it := fun (loc : List (Nat × AV)) n a (l : ag N.j loc = some (.obj c)) (q : ag n (cO kd (nm.map low) dl sc ack) = some a) => dc (st := ⟨loc, os2⟩) (af l) ha2.hc bK q
  obtain ⟨l', hl', hdl2⟩ := ha2.dat
  obtain rfl : l' = [] := List.length_eq_zero_iff.mp hl'
  rcases hkd with rfl | rfl
  · -- a start tag
    have hn2 : ¬ O os2.length := fun q => Nat.lt_irrefl _ (h2.bnd _ q)
    have hdl3 : (os2 ++ [AO.dict []])[dl]? = some (.list []) := aT hdl2
    have hnew : (os2 ++ [AO.dict []])[os2.length]? = some (.dict []) := bf rfl
    refine bA (cS (jP (it _ _ _ rfl rfl) rfl rfl) (bA (aO (bR (it _ _ _ rfl rfl)) (bA (aO (bR (df (os' := os2 ++ [AO.dict []]) (bi (af lk0)) fun K hK => ⟨_, rfl, hdl2, hK⟩)) (bA (cX (be (df (os' := os2 ++ [AO.dict []]) (bi (af (lk rfl lk0))) fun K hK => mn hdl3 (Nat.zero_le _) hK) (df (os' := os2 ++ [AO.dict []]) (bi (af lk0)) fun K hK => jf hnew hK) rfl) (ar ?_))))))))
    have h3 := (h2.app [AO.dict []]).own (O' := fun j => O j ∨ j = os2.length) (fun j hj => .inl hj) (by
      intro j hj
      rw [List.length_append]
      rcases hj with hj | rfl
      · exact Nat.lt_succ_of_lt (h2.bnd j hj)
      · exact Nat.lt_succ_self _)
    have bB : ∀ j, Bq O Os T.qi j → Bq (fun j => O j ∨ j = os2.length) Os T.qi j := fun j hj => ⟨.inl hj.1, hj.2⟩
    have bN : Bq (fun j => O j ∨ j = os2.length) Os T.qi os2.length := ⟨.inr rfl, fun q => hn2 (h.sub _ q), fun q => hn2 (q ▸ h.bQ.1)⟩
    have hc3 : (os2 ++ [AO.dict []])[c]? = some (.dict (cO 3 (nm.map low) dl sc ack)) := aT ha2.hc
    have ha4 : TagAt (Bq (fun j => O j ∨ j = os2.length) Os T.qi) ((os2 ++ [AO.dict []]).set c (.dict (cO 3 (nm.map low) os2.length sc ack))) c os2.length ack 3 (nm.map low) 0 sc true := ⟨aQ (ax hc3), bB _ ha2.bc, bN, ha2.hkd, ha2.hn, ha2.hnm, rfl, (aM (Nat.ne_of_lt (ax ha2.hc))).trans hnew⟩
    have h4 := h3.mutCur hs hca hc3 (bB _ ha2.bc) ha4.tok
    refine bA (aO (jR (af lk0) (af (lk rfl (lk rfl rfl))) hc3 bK eG) (ar (bA (cX (jP (dc (af (lk rfl (lk rfl rfl))) ha4.hc bK rfl) rfl rfl) (ar (ar ?_))))))
    refine iJ (c := c) (tk := ch 3 nm sc) (lk rfl (lk rfl rfl)) (lk rfl (lk rfl rfl)) ⟨Os, l4, m, Q, h4⟩ hca rfl (Nat.le_trans hq (by decide)) fun O' os' gg hh' => hk O' os' ((g2.trans ⟨⟨?_, fun j hj hn => ?_⟩, fun j hj => .inl hj, fun j hj => hj.imp id fun q => Nat.le_of_eq q.symm⟩).trans gg) ?_
    · rw [List.length_set, List.length_append]; exact Nat.le_add_right _ _
    · rw [aM (fun q : c = j => hn (q ▸ ha2.bc.1)), dq hj]
    · rw [show dH 3 sc = [] from if_neg (fun q => by cases q.1), List.append_nil]
      exact hh'
  · -- an end tag
    refine bA (cX (jP (it _ _ _ rfl rfl) rfl rfl) (ar (bA (cS (jP (it _ _ _ rfl rfl) rfl rfl) (bA (cX (eA (p := false) (it _ _ _ rfl rfl) ?_) (ar ?_)))))))
    · show (match os2[dl]? with | some (.meth _ _) => some true | some (.list l) => bif Nat.ble l.length 1000000 then some (!l.isEmpty) else none | _ => none) = _
      rw [hdl2]; rfl
    cases sc with
    | false =>
      refine bA (cX (eA (p := false) (it _ _ _ rfl rfl) rfl) (ar (ar (ar ?_))))
      refine iJ (c := c) (tk := ch 4 nm false) rfl rfl ⟨Os, l4, m, Q, h2⟩ hca rfl (Nat.le_trans hq (by decide)) fun O' os' gg hh' => hk O' os' (g2.trans gg) ?_
      rw [show dH 4 false = [] from if_neg (fun q => by cases q.2), List.append_nil]
      exact hh'
    | true =>
      refine bA (cS (eA (p := true) (it _ _ _ rfl rfl) rfl) (bA (aF fun K hK => bS (kd := 7) ⟨Os, l4, m, Q, h2⟩ rfl rfl (by decide) (Nat.le_trans hq (by decide)) fun O3 os3 g3 h3 => hK _ (ar (ar (ar ?_))))))
      refine iJ (c := c) (tk := ch 4 nm true) rfl rfl h3 hca rfl (by rw [List.length_append]; exact Nat.le_trans (Nat.succ_le_succ hq) (by decide)) fun O' os' gg hh' => hk O' os' ((g2.trans g3).trans gg) ?_
      rw [show dH 4 true = [.plain 7 my] from if_pos ⟨rfl, rfl⟩]
      exact hh'
end
theorem q1 : cv 762 N.E = true := by kernel_rfl
theorem q2 : cv 762 N.O = true := by kernel_rfl
theorem q3 : cv 762 N.ab = true := by kernel_rfl
theorem q4 : cv 762 N.aQ = true := by kernel_rfl
structure Fresh (Os : Nat → Prop) (os os' : List AO) (t s l4 m : Nat) (X : List Nat) : Prop where
  kp : Kp (fun j => j = t) os os'
  inst : os'[t]? = some (.inst 762 [(N.e, .obj s), (N.E, .none), (N.O, .bool false), (N.ab, .obj l4), (N.i, .obj m), (N.aQ, .bool false), (N.m, .none)])
  meth : os'[m]? = some (.meth 304 (.obj t))
  sv : SV Os os' s ⟨(0, 0), bp X, [], false⟩
  bO : ∀ j, Os j → os.length ≤ j ∧ j < os'.length
  bm : os.length ≤ m
  nm : ¬ Os m
theorem gi {os : List AO} {t : Nat} {X : List Nat} {k : AV → List AO → Prop} (hi : os[t]? = some (.inst 762 [])) (hX : X.length ≤ 9000) (hsur : ∀ c ∈ X, c < 55296 ∨ 56319 < c)
    (h : ∀ Os os' s l4 m, Fresh Os os os' t s l4 m X → k .none os') : F.initHTMLTokenizer [.obj t, .str X] os k := by
  have ht := ax hi
  refine bW (loc := [(N.a, .obj t), (N.e, .str X), (N.E, .none)]) rfl ?_
  unfold _root_.Mine.T.initHTMLTokenizer
  have lself : ag N.a [(N.a, AV.obj t), (N.e, AV.str X), (N.E, AV.none)] = some (.obj t) := aE _ _ _
  refine aF fun K hK => ?_
  simp (disch := decide) only [ah, hW, aX, aa, aE, aZ]
  refine iX (bf rfl) hX hsur fun os1 k1 sv => ?_
  have h1 : os1[t]? = some (.inst 762 []) := k1.at (aT hi) (by simp; lia)
  have hl1 := k1.1
  have hl1' : os.length + 1 ≤ os1.length := by simpa using hl1
  simp only [cI _ h1 t1 rfl, bx]
  refine hK _ ?_
  have ht1 := ax h1
  have kp1 : Kp (fun j => j = t) os os1 := ⟨by lia, fun j hj hn => by rw [k1.2 j (by simp; lia) (by simp; lia), dq hj]⟩
  have sv2 : SV (fun j => j = os.length ∨ os.length + 1 ≤ j ∧ j < os1.length) (os1.set t (.inst 762 [(N.e, .obj os.length)])) os.length ⟨(0, 0), bp X, [], false⟩ := by
    have e : (os ++ [AO.inst 166 []]).length = os.length + 1 := by simp
    rw [e] at sv
    exact sv.keep (O' := fun j => j = t) (Kp.set rfl) fun j hj q => by
      subst q
      rcases hj with hj | hj <;> lia
  have kp2 := kp1.trans (Kp.set (O := fun j => j = t) (a := os1) (X := .inst 762 [(N.e, .obj os.length)]) rfl)
  have h2 : (os1.set t (.inst 762 [(N.e, .obj os.length)]))[t]? = some (.inst 762 [(N.e, .obj os.length)]) := aQ ht1
  have hl2 : (os1.set t (.inst 762 [(N.e, .obj os.length)])).length = os1.length := by simp
  generalize os1.set t (.inst 762 [(N.e, .obj os.length)]) = os2 at *
  have ht2 := ax h2
  refine aF fun K hK => ?_
  simp (disch := decide) only [ah, aa, aE, aZ, cI _ h2 q1 rfl, ba, bx]
  refine hK _ ?_
  refine aF fun K hK => ?_
  simp (disch := first | decide | (simp only [List.length_cons, List.length_nil]; decide)) only [ah, ad, aa, aE, aZ, pR ht2 _ q2, ba, bx]
  refine hK _ ?_
  have h3 : (os2.set t (.inst 762 [(N.e, .obj os.length), (N.E, .none), (N.O, .bool false)]))[t]? = some (.inst 762 [(N.e, .obj os.length), (N.E, .none), (N.O, .bool false)]) := aQ ht2
  have kp3 := kp2.trans (Kp.set (O := fun j => j = t) (a := os2) (X := .inst 762 [(N.e, .obj os.length), (N.E, .none), (N.O, .bool false)]) rfl)
  have sv3 := sv2.keep (O' := fun j => j = t) (Kp.set (O := fun j => j = t) (a := os2) (X := .inst 762 [(N.e, .obj os.length), (N.E, .none), (N.O, .bool false)]) rfl) fun j hj q => by
    subst q
    rcases hj with hj | hj <;> lia
  have hl3 : (os2.set t (.inst 762 [(N.e, .obj os.length), (N.E, .none), (N.O, .bool false)])).length = os1.length := by simp [hl2]
  generalize os2.set t (.inst 762 [(N.e, .obj os.length), (N.E, .none), (N.O, .bool false)]) = os3 at *
  have ht3 := ax h3
  refine aF fun K hK => ?_
  have e0 : Nat.ble ([] : List AV).length 1000 = true := rfl
  have h4 : (os3 ++ [AO.list []])[t]? = some (.inst 762 [(N.e, .obj os.length), (N.E, .none), (N.O, .bool false)]) := aT h3
  simp (disch := decide) only [ah, cx, aX, e0, cond_true, aa, aE, aZ, cI _ h4 q3 rfl, ba, bx]
  refine hK _ ?_
  have h5 : ((os3 ++ [AO.list []]).set t (.inst 762 [(N.e, .obj os.length), (N.E, .none), (N.O, .bool false), (N.ab, .obj os3.length)]))[t]? = some (.inst 762 [(N.e, .obj os.length), (N.E, .none), (N.O, .bool false), (N.ab, .obj os3.length)]) := aQ (ax h4)
  have kp5 := (kp3.trans (Kp.app _ os3 [AO.list []])).trans (Kp.set (O := fun j => j = t) (a := os3 ++ [AO.list []]) (X := .inst 762 [(N.e, .obj os.length), (N.E, .none), (N.O, .bool false), (N.ab, .obj os3.length)]) rfl)
  have sv5 := (sv3.keep (O' := fun _ => False) (Kp.app _ os3 [AO.list []]) fun _ _ q => q).keep (O' := fun j => j = t) (Kp.set (O := fun j => j = t) (a := os3 ++ [AO.list []]) (X := .inst 762 [(N.e, .obj os.length), (N.E, .none), (N.O, .bool false), (N.ab, .obj os3.length)]) rfl) fun j hj q => by
    subst q
    rcases hj with hj | hj <;> lia
  have hl5 : ((os3 ++ [AO.list []]).set t (.inst 762 [(N.e, .obj os.length), (N.E, .none), (N.O, .bool false), (N.ab, .obj os3.length)])).length = os1.length + 1 := by simp [hl3]
  generalize (os3 ++ [AO.list []]).set t (.inst 762 [(N.e, .obj os.length), (N.E, .none), (N.O, .bool false), (N.ab, .obj os3.length)]) = os5 at *
  generalize os3.length = l4 at *
  refine aF fun K hK => ?_
  have ln : ag N.F [(N.e, AV.obj os.length), (N.E, .none), (N.O, .bool false), (N.ab, .obj l4)] = none := rfl
  have h6 : (os5 ++ [AO.meth 304 (.obj t)])[t]? = some (.inst 762 [(N.e, .obj os.length), (N.E, .none), (N.O, .bool false), (N.ab, .obj l4)]) := aT h5
  simp (disch := decide) only [ah, bg, aa, aE, aZ, dM h5 ln me2, cI _ h6 t2 rfl, ba, bx]
  refine hK _ ?_
  have ht6 := ax h6
  refine aF fun K hK => ?_
  simp (disch := first | decide | (simp only [List.length_cons, List.length_nil]; decide)) only [ah, ad, aa, aE, aZ, pR ht6 _ q4, ba, bx]
  refine hK _ ?_
  refine aF fun K hK => ?_
  simp (disch := first | decide | (simp only [List.length_cons, List.length_nil]; decide)) only [ah, ad, aa, aE, aZ, pR ht6 _ t3, ba, bx]
  refine hK _ ?_
  have ht5 := ax h5
  refine h (fun j => j = os.length ∨ os.length + 1 ≤ j ∧ j < os1.length) _ os.length l4 os5.length ⟨?_, aQ ht6, ?_, ?_, ?_, ?_, ?_⟩
  · exact (kp5.trans (Kp.app _ _ _)).trans (Kp.set rfl)
  · rw [aM (by lia)]; exact bf rfl
  · exact (sv5.keep (O' := fun _ => False) (Kp.app _ os5 _) fun _ _ q => q).keep (O' := fun j => j = t) (Kp.set rfl) fun j hj q => by
      subst q
      rcases hj with hj | hj <;> lia
  · intro j hj
    rw [List.length_set, List.length_append, hl5]
    rcases hj with hj | hj <;> exact ⟨by lia, by show j < os1.length + 1 + 1; lia⟩
  · lia
  · intro q
    rcases q with q | q <;> lia
section
variable {O Os : Nat → Prop} {os : List AO} {t : Nat} {T : Ts} {l4 m : Nat} {Q : List AV} {loc : List (Nat × AV)}
theorem jk {os0 : List AO} {s x : Nat} {X : List Nat} {k : AF → St → Prop} (h : Fresh Os os0 os t s l4 m X) (ht : t = os0.length - 1) (ht0 : t < os0.length) (hx : ag x loc = some (.obj t))
    (hk : ∀ O' os' qi, Kp (fun j => j = t) os os' → (∀ j, O' j → t ≤ j) → TV O' os' t ⟨s, qi, .none, ⟨(0, 0), bp X, [], false⟩, 304, none, [], true⟩ → k .next ⟨loc, os'⟩) : ah N.g (cx []) (aa x) ⟨loc, os⟩ k := by
  have e0 : Nat.ble ([] : List AV).length 1000 = true := rfl
  have h1 : (os ++ [AO.list []])[t]? = some (.inst 762 [(N.e, .obj s), (N.E, .none), (N.O, .bool false), (N.ab, .obj l4), (N.i, .obj m), (N.aQ, .bool false), (N.m, .none)]) := aT h.inst
  simp (disch := decide) only [ah, cx, aX, e0, cond_true, aa, hx, cI _ h1 t4 rfl, ba, bx]
  have hl := ax h.inst
  have hlm := ax h.meth
  have hbm := h.bm
  have hl0 := h.kp.1
  refine hk (fun j => j = t ∨ Os j ∨ j = m ∨ j = os.length) _ os.length ((Kp.app _ _ _).trans (Kp.set rfl)) ?_ ⟨Os, l4, m, [], ?_⟩
  · rintro j (rfl | hj | rfl | rfl)
    · exact Nat.le_refl _
    · have := h.bO j hj; lia
    · lia
    · lia
  · have kk : Kp (fun j => j = t) os ((os ++ [AO.list []]).set t (.inst 762 (Tfs s l4 m .none os.length))) := (Kp.app _ _ _).trans (Kp.set rfl)
    exact { inst := aQ (ax h1)
            meth := kk.at h.meth (by lia)
            que := by
              show ((os ++ [AO.list []]).set t _)[os.length]? = _
              rw [aM (by lia)]; exact bf rfl
            bT := ⟨.inl rfl, fun q => by have := h.bO t q; lia⟩
            bM := ⟨.inr (.inr (.inl rfl)), h.nm⟩
            bQ := ⟨.inr (.inr (.inr rfl)), fun q => by have := h.bO os.length q; lia⟩
            toks := trivial
            cur := rfl
            sv := h.sv.keep kk fun j hj q => by have := h.bO j hj; lia
            sub := fun j hj => .inr (.inl hj)
            bnd := by
              intro j hj
              rw [List.length_set, List.length_append]
              show j < os.length + 1
              rcases hj with rfl | hj | rfl | rfl
              · lia
              · have := h.bO j hj; lia
              · lia
              · lia
            sep := fun _ => ⟨fun a ha => (List.not_mem_nil ha).elim, fun k hk => (List.not_mem_nil hk).elim⟩ }
theorem oI {x : Nat} {k : AF → St → Prop} (h : TV O os t T) (hx : ag x loc = some (.obj t))
    (hk : ∀ O' os', Grow O os O' os' → TV O' os' t { T with qi := os.length, q := [], sep := true } → k .next ⟨loc, os'⟩) : ah N.g (cx []) (aa x) ⟨loc, os⟩ k := by
  obtain ⟨Os, l4, m, Q, h⟩ := h
  have e0 : Nat.ble ([] : List AV).length 1000 = true := rfl
  have h1 := h.app [AO.list []]
  have hl := ax h.inst
  simp (disch := decide) only [ah, cx, aX, e0, cond_true, aa, hx, cI _ h1.inst t4 rfl, ba, fh]
  have hnO : ¬ O os.length := fun q => Nat.lt_irrefl _ (h.bnd _ q)
  have sB : gy (Bq O Os T.qi) (Bq (fun j => O j ∨ j = os.length) Os os.length) (os ++ [AO.list []]) ((os ++ [AO.list []]).set t (.inst 762 (Tfs T.s l4 m T.ca os.length))) := fun j X hB hj hs =>
    let ⟨a, b⟩ := gh (B := Bq O Os T.qi) h1.inst (gT h1.inst (by simp) (by simp)) j X hB hj hs
    ⟨a, .inl b.1, b.2.1, fun q => hnO (q ▸ b.1)⟩
  refine hk (fun j => O j ∨ j = os.length) _ ⟨⟨by simp, fun j hj hn => ?_⟩, fun j hj => .inl hj, fun j (hj : O j ∨ j = os.length) => hj.imp id fun q => Nat.le_of_eq q.symm⟩ ⟨Os, l4, m, [], ?_⟩
  · rw [aM (fun q : t = j => hn (q ▸ h.bT.1)), dq hj]
  · exact { inst := aQ (ax h1.inst)
            meth := by rw [aM (aP h1.inst h1.meth (by simp))]; exact h1.meth
            que := by
              show ((os ++ [AO.list []]).set t _)[os.length]? = _
              rw [aM (by lia)]; exact bf rfl
            bT := ⟨.inl h.bT.1, h.bT.2⟩
            bM := ⟨.inl h.bM.1, h.bM.2⟩
            bQ := ⟨.inr rfl, fun q => hnO (h.sub _ q)⟩
            toks := trivial
            cur := h1.cur.keep sB
            sv := h1.sv.keep (O' := fun j => j = t) (Kp.set rfl) fun j hj q => h.bT.2 (q ▸ hj)
            sub := fun j hj => .inl (h.sub j hj)
            bnd := by
              intro j hj
              rw [List.length_set, List.length_append]
              show j < os.length + 1
              rcases hj with hj | rfl
              · have := h.bnd j hj; lia
              · lia
            sep := fun _ => ⟨fun a ha => (List.not_mem_nil ha).elim, fun k hk => (List.not_mem_nil hk).elim⟩ }
end
section
variable {os : List AO} {loc : List (Nat × AV)} {n : Nat}
theorem cJ {x y : List Nat} (hl : ag n loc = some (.str x)) (h : x = y) : ∀ K : Bool → St → Prop, K true ⟨loc, os⟩ → aq tb .Eq (aa n) (ad (.str y)) ⟨loc, os⟩ K := fun K hK => be (st := ⟨loc, os⟩) (co := .Eq) (a := .str x) (b := .str y) (p := true) (af hl) aA (congrArg some (decide_eq_true h)) K hK
theorem bU {x y : List Nat} (hl : ag n loc = some (.str x)) (h : x ≠ y) : ∀ K : Bool → St → Prop, K false ⟨loc, os⟩ → aq tb .Eq (aa n) (ad (.str y)) ⟨loc, os⟩ K := fun K hK => be (st := ⟨loc, os⟩) (co := .Eq) (a := .str x) (b := .str y) (p := false) (af hl) aA (congrArg some (decide_eq_false h)) K hK
theorem ed {y : List Nat} (hl : ag n loc = some .none) : ∀ K : Bool → St → Prop, K false ⟨loc, os⟩ → aq tb .Eq (aa n) (ad (.str y)) ⟨loc, os⟩ K := fun K hK => be (p := false) (af hl) aA rfl K hK
theorem kR (hl : ag n loc = some .none) : ∀ K : Bool → St → Prop, K true ⟨loc, os⟩ → aq tb .Is (aa n) (ad .none) ⟨loc, os⟩ K := fun K hK => be (p := true) (af hl) aA rfl K hK
theorem jl {x : List Nat} (hl : ag n loc = some (.str x)) : ∀ K : Bool → St → Prop, K false ⟨loc, os⟩ → aq tb .Is (aa n) (ad .none) ⟨loc, os⟩ K := fun K hK => be (p := false) (af hl) aA rfl K hK
theorem cIn {g v : AV} {b : Bool} (hl : ag n loc = some v) (h : bz tb os .In v g = some b) : ∀ K : Bool → St → Prop, K b ⟨loc, os⟩ → aq tb .In (aa n) (ad g) ⟨loc, os⟩ K := fun K hK => be (af hl) aA h K hK
theorem bL {b : Bool} {k : AV → List AO → Prop} (h : k (.bool b) os) : ae (ay (ad (.bool b))) aj ⟨loc, os⟩ (gK k) := h
end
noncomputable def a8 (c : Nat) (l : List Nat) : Bool := l.any fun d => decide (d = c)
theorem gW (c : Nat) (os : List AO) : ∀ l : List Nat, gF (.str [c]) (l.map fun d => AV.str [d]) = some (a8 c l)
  | [] => rfl
  | d :: r => by
    have := gW c os r
    simp only [List.map_cons, gF, eqS, this]
    congr 1
    unfold a8
    rw [List.any_cons]
    congr 1
    rw [Bool.eq_iff_iff, decide_eq_true_eq, decide_eq_true_eq]
    simp
noncomputable def spL : List Nat := [9, 10, 12, 32, 13]
noncomputable def alL : List Nat := [97, 98, 99, 100, 101, 102, 103, 104, 105, 106, 107, 108, 109, 110, 111, 112, 113, 114, 115, 116, 117, 118, 119, 120, 121, 122, 65, 66, 67, 68, 69, 70, 71, 72, 73, 74, 75, 76, 77, 78, 79, 80, 81, 82, 83, 84, 85, 86, 87, 88, 89, 90]
theorem j3 (os : List AO) (c : Nat) : bz tb os .In (.str [c]) (.glob (.ref 22)) = some (a8 c spL) := gW c os spL
theorem m8 (os : List AO) (c : Nat) : bz tb os .In (.str [c]) (.glob (.ref 27)) = some (a8 c alL) := gW c os alL
theorem qv (os : List AO) : bz tb os .In .none (.glob (.ref 22)) = some false := rfl
theorem oJ (os : List AO) : bz tb os .In .none (.glob (.ref 27)) = some false := rfl
section
variable {O Os : Nat → Prop} {os : List AO} {t : Nat} {T : Ts} {l4 m : Nat} {Q : List AV} {loc : List (Nat × AV)}
noncomputable def dN : List Nat := [105, 110, 118, 97, 108, 105, 100, 45, 99, 111, 100, 101, 112, 111, 105, 110, 116]
theorem tsE : cQ tb [] (.glob (.ref 48)) (.str [80, 97, 114, 115, 101, 69, 114, 114, 111, 114]) = some (.int 7) := rfl
theorem tsC : cQ tb [] (.glob (.ref 48)) (.str [67, 104, 97, 114, 97, 99, 116, 101, 114, 115]) = some (.int 1) := rfl
theorem tsS : cQ tb [] (.glob (.ref 48)) (.str [83, 112, 97, 99, 101, 67, 104, 97, 114, 97, 99, 116, 101, 114, 115]) = some (.int 2) := rfl
theorem tsM : cQ tb [] (.glob (.ref 48)) (.str [67, 111, 109, 109, 101, 110, 116]) = some (.int 6) := rfl
structure Res where
  ret : Bool
  rem : List Nat
  cur : Option Tok
  q : List Tok
noncomputable def cC (rem : List Nat) (cur : Option Tok) : Res := match rem with
  | [] => ⟨false, [], cur, []⟩
  | c :: r => if c = 38 ∨ c = 60 then ⟨true, r, cur, []⟩ else
    if c = 0 then ⟨true, r, cur, [.plain 7 dN, .plain 1 [0]]⟩ else
    if a8 c spL = true then ⟨true, r.dropWhile (fun d => decide (a8 d spL = true)), cur, [.plain 2 (c :: r.takeWhile fun d => decide (a8 d spL = true))]⟩ else
    ⟨true, r.dropWhile (fun d => decide (a8 d [38, 60, 0] = false)), cur, [.plain 1 (c :: r.takeWhile fun d => decide (a8 d [38, 60, 0] = false))]⟩
noncomputable def lC (F : TF) (f : List Nat → Option Tok → Res) (pre : Ts → Prop) : Prop := ∀ (O : Nat → Prop) (os : List AO) (t : Nat) (T : Ts) (k : AV → List AO → Prop), TV O os t T → pre T → T.q.length ≤ 5000 →
  (∀ O' os' T', Grow O os O' os' → TV O' os' t T' → T'.S.rem = (f T.S.rem T.cur).rem → T'.cur = (f T.S.rem T.cur).cur → T'.q = T.q ++ (f T.S.rem T.cur).q → k (.bool (f T.S.rem T.cur).ret) os') → F [.obj t] os k
theorem md1 : cw 762 N.bm cr = some 311 := by kernel_rfl
theorem md2 : cw 762 N.aO cr = some 353 := by kernel_rfl
theorem qw (h : TV O os t T) : T.S.rem.length ≤ 9000 := by
  obtain ⟨Os, l4, m, Q, h⟩ := h
  obtain ⟨C1, C2, pl, pc, rm, x, e, n, nl, bl, X, er, s⟩ := h.sv
  have := s.siz
  lia
theorem jm {os : List AO} {i : Nat} {l : List Nat} (h : os[i]? = some (.tup (l.map fun d => AV.str [d]))) (c : Nat) : bz tb os .In (.str [c]) (.obj i) = some (a8 c l) := by
  show (match (match os[i]? with
    | some (.list vs) => some (false, vs)
    | some (.tup vs) => some (true, vs)
    | _ => none : Option (Bool × List AV)) with
      | some (true, l) => gF (.str [c]) l
      | _ => none) = _
  rw [h]
  exact gW c os l
theorem m9 : lC F.dataState cC fun _ => True := by
  intro O os t T k h _ hq hk
  refine bW (loc := [(N.a, .obj t)]) rfl ?_
  unfold _root_.Mine.T.dataState
  first | refine sq5 ?_ | refine sq4 ?_ | refine sq3 ?_ | refine sq2 ?_ | refine sq1 ?_ | refine ar ?_ | skip
  refine bJ ?_
  refine dr h (aE _ _ _) (fun hr os1 g1 h1 => ?_) (fun c r hr os1 g1 h1 => ?_)
  · have e : put N.b .none [(N.a, AV.obj t)] = [(N.a, .obj t), (N.b, .none)] := by simp (disch := decide) only [ba, bx]
    dsimp only
    rw [e]
    have ld : ag N.b [(N.a, AV.obj t), (N.b, .none)] = some .none := rfl
    refine bo (ed ld) ?_
    first | refine sq5 ?_ | refine sq4 ?_ | refine sq3 ?_ | refine sq2 ?_ | refine sq1 ?_ | refine ar ?_ | skip
    refine bo (ed ld) ?_
    first | refine sq5 ?_ | refine sq4 ?_ | refine sq3 ?_ | refine sq2 ?_ | refine sq1 ?_ | refine ar ?_ | skip
    refine bo (ed ld) ?_
    first | refine sq5 ?_ | refine sq4 ?_ | refine sq3 ?_ | refine sq2 ?_ | refine sq1 ?_ | refine ar ?_ | skip
    refine cz (kR ld) ?_
    first | refine sq5 ?_ | refine sq4 ?_ | refine sq3 ?_ | refine sq2 ?_ | refine sq1 ?_ | refine ar ?_ | skip
    refine kO ?_
    simp only [ad]
    rw [hr] at hk
    refine hk O os1 _ g1 h1 ?_ rfl (by simp [cC])
    simp [cC, hr]
  · have e : put N.b (.str [c]) [(N.a, AV.obj t)] = [(N.a, .obj t), (N.b, .str [c])] := by simp (disch := decide) only [ba, bx]
    dsimp only
    rw [e]
    have ld : ag N.b [(N.a, AV.obj t), (N.b, .str [c])] = some (.str [c]) := rfl
    have ls : ag N.a [(N.a, AV.obj t), (N.b, .str [c])] = some (.obj t) := aE _ _ _
    rw [hr] at hk
    have hlen := qw h
    rw [hr] at hlen
    simp only [List.length_cons] at hlen
    by_cases c1 : c = 38
    · subst c1
      refine cz (cJ ld rfl) ?_
      first | refine sq5 ?_ | refine sq4 ?_ | refine sq3 ?_ | refine sq2 ?_ | refine sq1 ?_ | refine ar ?_ | skip
      refine aF fun K hK => aG h1 ls md1 (fun _ _ _ _ _ => rfl) fun O2 os2 g2 h2 => hK _ ?_
      exact bL (hk O2 os2 _ (g1.trans g2) h2 (by simp [cC]) (by simp [cC]) (by simp [cC]))
    refine bo (bU ld (by simpa using c1)) ?_
    first | refine sq5 ?_ | refine sq4 ?_ | refine sq3 ?_ | refine sq2 ?_ | refine sq1 ?_ | refine ar ?_ | skip
    by_cases c2 : c = 60
    · subst c2
      refine cz (cJ ld rfl) ?_
      first | refine sq5 ?_ | refine sq4 ?_ | refine sq3 ?_ | refine sq2 ?_ | refine sq1 ?_ | refine ar ?_ | skip
      refine aF fun K hK => aG h1 ls md2 (fun _ _ _ _ _ => rfl) fun O2 os2 g2 h2 => hK _ ?_
      exact bL (hk O2 os2 _ (g1.trans g2) h2 (by simp [cC]) (by simp [cC]) (by simp [cC]))
    refine bo (bU ld (by simpa using c2)) ?_
    first | refine sq5 ?_ | refine sq4 ?_ | refine sq3 ?_ | refine sq2 ?_ | refine sq1 ?_ | refine ar ?_ | skip
    by_cases c3 : c = 0
    · subst c3
      refine cz (cJ ld rfl) ?_
      first | refine sq5 ?_ | refine sq4 ?_ | refine sq3 ?_ | refine sq2 ?_ | refine sq1 ?_ | refine ar ?_ | skip
      refine aF fun K hK => bS h1 ls tsE (by decide) (by show T.q.length ≤ _; lia) fun O2 os2 g2 h2 => hK _ ?_
      refine aF fun K hK => bS h2 ls tsC (by decide) (by simp; lia) fun O3 os3 g3 h3 => hK _ ?_
      exact bL (hk O3 os3 _ ((g1.trans g2).trans g3) h3 (by simp [cC]) (by simp [cC]) (by simp [cC, dN]))
    refine bo (bU ld (by simpa using c3)) ?_
    first | refine sq5 ?_ | refine sq4 ?_ | refine sq3 ?_ | refine sq2 ?_ | refine sq1 ?_ | refine ar ?_ | skip
    refine bo (jl ld) ?_
    first | refine sq5 ?_ | refine sq4 ?_ | refine sq3 ?_ | refine sq2 ?_ | refine sq1 ?_ | refine ar ?_ | skip
    cases c4 : a8 c spL with
    | true =>
      refine cz (cIn ld (by rw [j3, c4])) ?_
      first | refine sq5 ?_ | refine sq4 ?_ | refine sq3 ?_ | refine sq2 ?_ | refine sq1 ?_ | refine ar ?_ | skip
      have hD : cC (c :: r) T.cur = ⟨true, r.dropWhile (fun d => decide (a8 d spL = true)), T.cur, [.plain 2 (c :: r.takeWhile fun d => decide (a8 d spL = true))]⟩ := by
        unfold cC; dsimp only; rw [if_neg (by simp [c1, c2]), if_neg c3, if_pos c4]
      rw [hD] at hk
      have htl : (r.takeWhile fun d => decide (a8 d spL = true)).length ≤ r.length := (List.takeWhile_prefix _).length_le
      refine aF fun K hK => oD (fun T1 => ∃ S', T1 = { T with S := S' } ∧ S'.rem = r.dropWhile (fun d => decide (a8 d spL = true))) h1 ls tsS (by decide) ?_ (d := c :: r.takeWhile fun d => decide (a8 d spL = true)) (fun K2 hK2 => ?_) fun O2 os2 T1 hT1 g2 h2 => hK _ ?_
      · rintro T1 ⟨S', rfl, _⟩; exact ⟨rfl, by show T.q.length ≤ _; lia⟩
      · simp only [cA, aa, ld]
        refine cU (r := []) (avs := [.glob (.ref 22), .bool true]) (opp := true) (chars := .glob (.ref 22)) (P := fun c => a8 c spL) (h1.app _) ls (.inr rfl) (fun K3 hK3 => ?_) (fun os' _ c => j3 os' c) fun os' S' g hS h' => ?_
        · rw [List.append_nil] at hK3
          simp only [aX, ad]; exact hK3
        · have b1 : Nat.ble ([c].length + (r.takeWhile fun d => decide (a8 d spL = true)).length) 1000000 = true := Nat.ble_eq_true_of_le (by rw [List.length_singleton]; lia)
          simp only [iS, b1, cond_true]
          exact hK2 O os' _ ⟨S', rfl, hS⟩ g h'
      · obtain ⟨S', rfl, hS⟩ := hT1
        exact bL (hk O2 os2 _ (g1.trans g2) h2 hS rfl rfl)
    | false =>
      refine bo (cIn ld (by rw [j3, c4])) ?_
      first | refine sq5 ?_ | refine sq4 ?_ | refine sq3 ?_ | refine sq2 ?_ | refine sq1 ?_ | refine ar ?_ | skip
      have hD : cC (c :: r) T.cur = ⟨true, r.dropWhile (fun d => decide (a8 d [38, 60, 0] = false)), T.cur, [.plain 1 (c :: r.takeWhile fun d => decide (a8 d [38, 60, 0] = false))]⟩ := by
        unfold cC; dsimp only; rw [if_neg (by simp [c1, c2]), if_neg c3, if_neg (by simp [c4])]
      rw [hD] at hk
      have htl : (r.takeWhile fun d => decide (a8 d [38, 60, 0] = false)).length ≤ r.length := (List.takeWhile_prefix _).length_le
      have hn1 : ¬ O os1.length := fun q => Nat.lt_irrefl _ (h1.bnd _ q)
      refine bJ ?_
      refine cU (r := [.tup [.str [38], .str [60], .str [0]]]) (avs := [.obj os1.length]) (opp := false) (chars := .obj os1.length) (P := fun c => a8 c [38, 60, 0]) h1 ls (.inl ⟨rfl, rfl⟩) (fun K3 hK3 => ?_) (fun os' hk' c => jm (l := [38, 60, 0]) (hk'.at (bf rfl) hn1) c) fun os' S' g hS h' => ?_
      · have b3 : ∀ a b c : AV, Nat.ble [a, b, c].length 1000 = true := fun _ _ _ => rfl
        simp only [aX, bq, ad, b3, cond_true]; exact hK3
      · have e2 : ∀ v, put N.aJ v [(N.a, AV.obj t), (N.b, .str [c])] = [(N.a, .obj t), (N.b, .str [c]), (N.aJ, v)] := fun v => by simp (disch := decide) only [ba, bx]
        dsimp only
        rw [e2]
        refine aF fun K hK => j0 h' (aE _ _ _) tsC (by decide) (by show T.q.length ≤ _; lia) (d := c :: r.takeWhile fun d => decide (a8 d [38, 60, 0] = false)) (fun os' K2 hK2 => ?_) fun O2 os2 g2 h2 => hK _ ?_
        · have b1 : Nat.ble ([c].length + (r.takeWhile fun d => decide (a8 d [38, 60, 0] = false)).length) 1000000 = true := Nat.ble_eq_true_of_le (by rw [List.length_singleton]; lia)
          simp (disch := decide) only [cA, aa, aE, aZ, iS, b1, cond_true]
          exact hK2
        · exact bL (hk O2 os2 _ ((g1.trans g).trans g2) h2 hS rfl rfl)
noncomputable def eY (rem : List Nat) (cur : Option Tok) : Res := ⟨true, (rem.dropWhile fun d => decide (a8 d [62] = false)).tail, cur, [.plain 6 ((rem.takeWhile fun d => decide (a8 d [62] = false)).map fun a => if a = 0 then 65533 else a)]⟩
theorem rR (os : List AO) (c : Nat) : bz tb os .In (.str [c]) (.str [62]) = some (a8 c [62]) := by
  show some (Txt.contains (txt [62]) (txt [c])) = _
  unfold Txt.contains
  have := PySem.StrLaws.found_one (txt [62]) c
  rw [show (⟨#[c]⟩ : Str) = txt [c] from rfl] at this
  rw [this]
  congr 1
  rw [Bool.eq_iff_iff, decide_eq_true_eq]
  simp [a8, txt, eq_comm]
theorem lD : lC F.bogusCommentState eY fun _ => True := by
  intro O os t T k h _ hq hk
  refine bW (loc := [(N.a, .obj t)]) rfl ?_
  unfold _root_.Mine.T.bogusCommentState
  have hlen := qw h
  have htl : (T.S.rem.takeWhile fun d => decide (a8 d [62] = false)).length ≤ T.S.rem.length := (List.takeWhile_prefix _).length_le
  refine bJ ?_
  refine cU (r := []) (avs := [.str [62]]) (opp := false) (chars := .str [62]) (P := fun c => a8 c [62]) h (aE _ _ _) (.inl ⟨rfl, rfl⟩) (fun K3 hK3 => ?_) (fun os' _ c => rR os' c) fun os1 S1 g1 hS1 h1 => ?_
  · rw [List.append_nil] at hK3
    simp only [aX, ad]; exact hK3
  have e : ∀ v, put N.b v [(N.a, AV.obj t)] = [(N.a, .obj t), (N.b, v)] := fun v => by simp (disch := decide) only [ba, bx]
  dsimp only
  rw [e]
  refine bJ ?_
  have b1 : (Nat.ble (T.S.rem.takeWhile fun d => decide (a8 d [62] = false)).length 100000 && Nat.ble [65533].length 100 && !decide (([0] : List Nat) = [65533])) = true := by
    rw [Nat.ble_eq_true_of_le (show (T.S.rem.takeWhile fun d => decide (a8 d [62] = false)).length ≤ 100000 by lia)]; rfl
  simp (disch := decide) only [gH, aa, aZ, aE, b1, cond_true, kC, ba, fh]
  have ls : ∀ v, ag N.a [(N.a, AV.obj t), (N.b, v)] = some (.obj t) := fun v => aE _ _ _
  refine aF fun K hK => j0 h1 (ls _) tsM (by decide) (by show T.q.length ≤ _; lia) (d := (T.S.rem.takeWhile fun d => decide (a8 d [62] = false)).map fun a => if a = 0 then 65533 else a) (fun os' K2 hK2 => ?_) fun O2 os2 g2 h2 => hK _ ?_
  · simp (disch := decide) only [aa, aZ, aE]; exact hK2
  refine aF fun K hK => ?_
  unfold aK
  have after : ∀ (O3 : Nat → Prop) os3 T3, Grow O2 os2 O3 os3 → TV O3 os3 t T3 → T3.S.rem = (eY T.S.rem T.cur).rem → T3.cur = T.cur → T3.q = T.q ++ (eY T.S.rem T.cur).q → ae (ah N.i (bg N.F (aa N.a)) (aa N.a)) (ae (ay (ad (AV.bool true))) aj) ⟨[(N.a, AV.obj t), (N.b, .str ((T.S.rem.takeWhile fun d => decide (a8 d [62] = false)).map fun a => if a = 0 then 65533 else a))], os3⟩ (gK k) := by
    intro O3 os3 T3 g3 h3 r1 r2 r3
    refine aF fun K hK => aG h3 (ls _) me2 (fun _ _ _ _ _ => rfl) fun O4 os4 g4 h4 => hK _ ?_
    exact bL (hk O4 os4 _ (((g1.trans g2).trans g3).trans g4) h4 r1 r2 r3)
  refine dr h2 (ls _) (fun hr os3 g3 h3 => hK _ (after O2 os3 _ g3 h3 ?_ rfl rfl)) (fun c r hr os3 g3 h3 => hK _ (after O2 os3 _ g3 h3 ?_ rfl rfl))
  · have hr' : S1.rem = [] := hr
    show S1.rem = (T.S.rem.dropWhile fun d => decide (a8 d [62] = false)).tail
    rw [hS1] at hr'
    rw [hS1, hr']; rfl
  · have hr' : S1.rem = c :: r := hr
    show r = (T.S.rem.dropWhile fun d => decide (a8 d [62] = false)).tail
    rw [hS1] at hr'
    rw [hr']; rfl
end
theorem j4 {os : List AO} {A B X : AO} : (os ++ [A] ++ [B]).set os.length X = os ++ [X, B] := by
  rw [List.append_assoc, List.set_append_right _ _ (Nat.le_refl _)]; simp
theorem rS {os : List AO} {loc : List (Nat × AV)} {c ts : List Nat} {kd : Int} (hd : ag N.b loc = some (.str c)) (hts : cQ tb [] (.glob (.ref 48)) (.str ts) = some (.int kd)) (K : AV → St → Prop) (hK : K (.obj os.length) ⟨loc, os ++ [.dict (cO kd c (os.length + 1) false true), .list []]⟩) :
    bh [N.h, N.k, N.b, N.K, N.a2] [aU tb (ad (.glob (.ref 48))) (ad (.str ts)), aa N.b, cx [], ad (.bool false), ad (.bool false)] ⟨loc, os⟩ K := by
  have e0 : Nat.ble ([] : List AV).length 1000 = true := rfl
  have el : (os ++ [AO.dict []]).length = os.length + 1 := by simp
  have e1 : (os ++ [AO.dict []] ++ [AO.list []])[os.length]? = some (.dict []) := aT (bf rfl)
  have f2 : (eO [N.h, N.k, N.b, N.K, N.a2] [.int kd, .str c, .obj (os.length + 1), .bool false, .bool false] [] && Nat.beq [N.h, N.k, N.b, N.K, N.a2].length [AV.int kd, .str c, .obj (os.length + 1), .bool false, .bool false].length) = true := rfl
  simp (disch := decide) only [bh, aX, aU, ad, jj, hts, aa, hd, cx, e0, cond_true, el, e1, f2, dA, bx, ba, j4]
  exact hK
theorem rT {os : List AO} {loc : List (Nat × AV)} {c ts : List Nat} {kd : Int} (hd : ag N.b loc = some (.str c)) (hts : cQ tb [] (.glob (.ref 48)) (.str ts) = some (.int kd)) (K : AV → St → Prop) (hK : K (.obj os.length) ⟨loc, os ++ [.dict (cO kd c (os.length + 1) false false), .list []]⟩) :
    bh [N.h, N.k, N.b, N.K] [aU tb (ad (.glob (.ref 48))) (ad (.str ts)), aa N.b, cx [], ad (.bool false)] ⟨loc, os⟩ K := by
  have e0 : Nat.ble ([] : List AV).length 1000 = true := rfl
  have el : (os ++ [AO.dict []]).length = os.length + 1 := by simp
  have e1 : (os ++ [AO.dict []] ++ [AO.list []])[os.length]? = some (.dict []) := aT (bf rfl)
  have f2 : (eO [N.h, N.k, N.b, N.K] [.int kd, .str c, .obj (os.length + 1), .bool false] [] && Nat.beq [N.h, N.k, N.b, N.K].length [AV.int kd, .str c, .obj (os.length + 1), .bool false].length) = true := rfl
  simp (disch := decide) only [bh, aX, aU, ad, jj, hts, aa, hd, cx, e0, cond_true, el, e1, f2, dA, bx, ba, j4]
  exact hK
theorem j5 {os : List AO} {c : List Nat} {kd : Int} {ack : Bool} (hkd : kd = 3 ∨ kd = 4) (hc : c.length ≤ 9000) : TokAt (fun j => os.length ≤ j ∧ j < os.length + 2) (os ++ [.dict (cO kd c (os.length + 1) false ack), .list []]) (.obj os.length) (.tag kd c 0 false false) :=
  ⟨os.length, os.length + 1, ack, rfl, by simp, ⟨by lia, by lia⟩, ⟨by lia, by lia⟩, hkd, by lia, hc, [], rfl, by simp⟩
section
variable {O Os : Nat → Prop} {os : List AO} {t : Nat} {T : Ts} {l4 m : Nat} {Q : List AV} {loc : List (Nat × AV)}
structure One where
  q : List Tok
  gone : Bool
  st : Nat
  cur : Option Tok
noncomputable def eBr : List Nat := [101, 120, 112, 101, 99, 116, 101, 100, 45, 116, 97, 103, 45, 110, 97, 109, 101, 45, 98, 117, 116, 45, 103, 111, 116, 45, 114, 105, 103, 104, 116, 45, 98, 114, 97, 99, 107, 101, 116]
noncomputable def eQm : List Nat := [101, 120, 112, 101, 99, 116, 101, 100, 45, 116, 97, 103, 45, 110, 97, 109, 101, 45, 98, 117, 116, 45, 103, 111, 116, 45, 113, 117, 101, 115, 116, 105, 111, 110, 45, 109, 97, 114, 107]
noncomputable def eNm : List Nat := [101, 120, 112, 101, 99, 116, 101, 100, 45, 116, 97, 103, 45, 110, 97, 109, 101]
noncomputable def eCb : List Nat := [101, 120, 112, 101, 99, 116, 101, 100, 45, 99, 108, 111, 115, 105, 110, 103, 45, 116, 97, 103, 45, 98, 117, 116, 45, 103, 111, 116, 45, 114, 105, 103, 104, 116, 45, 98, 114, 97, 99, 107, 101, 116]
noncomputable def eCe : List Nat := [101, 120, 112, 101, 99, 116, 101, 100, 45, 99, 108, 111, 115, 105, 110, 103, 45, 116, 97, 103, 45, 98, 117, 116, 45, 103, 111, 116, 45, 101, 111, 102]
noncomputable def eCc : List Nat := [101, 120, 112, 101, 99, 116, 101, 100, 45, 99, 108, 111, 115, 105, 110, 103, 45, 116, 97, 103, 45, 98, 117, 116, 45, 103, 111, 116, 45, 99, 104, 97, 114]
noncomputable def cq : List Nat → One
  | [] => ⟨[.plain 7 eNm, .plain 1 [60]], false, 304, none⟩
  | c :: _ => if c = 33 then ⟨[], true, 605, none⟩ else if c = 47 then ⟨[], true, 360, none⟩ else
    if a8 c alL = true then ⟨[], true, 367, some (.tag 3 [c] 0 false false)⟩ else
    if c = 62 then ⟨[.plain 7 eBr, .plain 1 [60, 62]], true, 304, none⟩ else
    if c = 63 then ⟨[.plain 7 eQm], false, 598, none⟩ else ⟨[.plain 7 eNm, .plain 1 [60]], false, 304, none⟩
noncomputable def bF : List Nat → One
  | [] => ⟨[.plain 7 eCe, .plain 1 [60, 47]], false, 304, none⟩
  | c :: _ => if a8 c alL = true then ⟨[], true, 367, some (.tag 4 [c] 0 false false)⟩ else
    if c = 62 then ⟨[.plain 7 eCb], true, 304, none⟩ else ⟨[.plain 7 eCc], false, 598, none⟩
noncomputable def fz (g : Bool) (rem : List Nat) : List Nat := if g then rem.tail else rem
noncomputable def gj (g : Bool) (p : Int × Int) (rem : List Nat) : Int × Int := if g then adv p (rem.headD 0) else p
noncomputable def p6 (c : Option Tok) (d : Option Tok) : Option Tok := match c with
  | some k => some k
  | none => d
noncomputable def qx (F : TF) (f : List Nat → One) : Prop := ∀ (O : Nat → Prop) (os : List AO) (t : Nat) (T : Ts) (k : AV → List AO → Prop), TV O os t T → T.q = [] → T.sep = true →
  (∀ O' os' T', Grow O os O' os' → TV O' os' t T' → T'.S.rem = fz (f T.S.rem).gone T.S.rem → T'.S.pos = gj (f T.S.rem).gone T.S.pos T.S.rem → T'.cur = p6 (f T.S.rem).cur T.cur → T'.q = (f T.S.rem).q → T'.st = (f T.S.rem).st → T'.sep = true → k (.bool true) os') → F [.obj t] os k
theorem mm1 : cw 762 N.aY cr = some 605 := by kernel_rfl
theorem mm2 : cw 762 N.ap cr = some 360 := by kernel_rfl
theorem mm3 : cw 762 N.aF cr = some 367 := by kernel_rfl
theorem mm4 : cw 762 N.ak cr = some 598 := by kernel_rfl
theorem mm5 : cw 762 N.aI cr = some 535 := by kernel_rfl
theorem mm6 : cw 762 N.aN cr = some 591 := by kernel_rfl
theorem mm7 : cw 762 N.ao cr = some 542 := by kernel_rfl
theorem mm8 : cw 762 N.bd cr = some 612 := by kernel_rfl
theorem mm9 : cw 762 N.be cr = some 654 := by kernel_rfl
theorem sU : cQ tb [] (.glob (.ref 48)) (.str [83, 116, 97, 114, 116, 84, 97, 103]) = some (.int 3) := rfl
theorem sV : cQ tb [] (.glob (.ref 48)) (.str [69, 110, 100, 84, 97, 103]) = some (.int 4) := rfl
theorem cK {t : Nat} (v : AV) : put N.b v [(N.a, AV.obj t)] = [(N.a, .obj t), (N.b, v)] := by simp (disch := decide) only [ba, bx]
theorem ld2 {t : Nat} {v : AV} : ag N.b [(N.a, AV.obj t), (N.b, v)] = some v := by simp (disch := decide) only [aZ, aE]
theorem ls2 {t : Nat} {v : AV} : ag N.a [(N.a, AV.obj t), (N.b, v)] = some (.obj t) := aE _ _ _
theorem gC : qx F.closeTagOpenState bF := by
  intro O os t T k h hq hsep hk
  refine bW (loc := [(N.a, .obj t)]) rfl ?_
  unfold _root_.Mine.T.closeTagOpenState
  first | refine sq5 ?_ | refine sq4 ?_ | refine sq3 ?_ | refine sq2 ?_ | refine sq1 ?_ | refine ar ?_ | skip
  have hq0 : ∀ n, T.q.length ≤ n := fun n => by rw [hq]; exact Nat.zero_le _
  refine bJ ?_
  refine dr h (aE _ _ _) (fun hr os1 g1 h1 => ?_) (fun c r hr os1 g1 h1 => ?_)
  · dsimp only
    rw [cK]
    rw [hr] at hk
    refine bo (cIn ld2 (oJ _)) ?_
    first | refine sq5 ?_ | refine sq4 ?_ | refine sq3 ?_ | refine sq2 ?_ | refine sq1 ?_ | refine ar ?_ | skip
    refine bo (ed ld2) ?_
    first | refine sq5 ?_ | refine sq4 ?_ | refine sq3 ?_ | refine sq2 ?_ | refine sq1 ?_ | refine ar ?_ | skip
    refine cz (kR ld2) ?_
    first | refine sq5 ?_ | refine sq4 ?_ | refine sq3 ?_ | refine sq2 ?_ | refine sq1 ?_ | refine ar ?_ | skip
    refine aF fun K hK => bS h1 ls2 tsE (by decide) (hq0 _) fun O2 os2 g2 h2 => hK _ ?_
    refine aF fun K hK => bS h2 ls2 tsC (by decide) (by simp [hq]) fun O3 os3 g3 h3 => hK _ ?_
    refine aF fun K hK => aG h3 ls2 me2 (fun _ _ _ _ _ => rfl) fun O4 os4 g4 h4 => hK _ ?_
    exact bL (hk O4 os4 _ (((g1.trans g2).trans g3).trans g4) h4 hr rfl rfl (by simp [hq, bF, eCe]) rfl hsep)
  · dsimp only
    rw [cK]
    rw [hr] at hk
    cases c1 : a8 c alL with
    | true =>
      refine cz (cIn ld2 (by rw [m8, c1])) ?_
      first | refine sq5 ?_ | refine sq4 ?_ | refine sq3 ?_ | refine sq2 ?_ | refine sq1 ?_ | refine ar ?_ | skip
      have hD : bF (c :: r) = ⟨[], true, 367, some (.tag 4 [c] 0 false false)⟩ := by unfold bF; dsimp only; rw [if_pos c1]
      rw [hD] at hk
      refine aF fun K hK => d9 (r := [.dict (cO 4 [c] (os1.length + 1) false false), .list []]) (b := true) h1 ls2 (fun K2 hK2 => rT ld2 sV K2 hK2) (j5 (.inr rfl) (by simp)) (fun _ k hk' => by simp [hq] at hk') fun O2 os2 g2 h2 => hK _ ?_
      refine aF fun K hK => aG h2 ls2 mm3 (fun _ _ _ _ _ => rfl) fun O3 os3 g3 h3 => hK _ ?_
      exact bL (hk O3 os3 _ ((g1.trans g2).trans g3) h3 rfl rfl rfl hq rfl rfl)
    | false =>
      refine bo (cIn ld2 (by rw [m8, c1])) ?_
      first | refine sq5 ?_ | refine sq4 ?_ | refine sq3 ?_ | refine sq2 ?_ | refine sq1 ?_ | refine ar ?_ | skip
      by_cases c2 : c = 62
      · subst c2
        refine cz (cJ ld2 rfl) ?_
        first | refine sq5 ?_ | refine sq4 ?_ | refine sq3 ?_ | refine sq2 ?_ | refine sq1 ?_ | refine ar ?_ | skip
        have hD : bF (62 :: r) = ⟨[.plain 7 eCb], true, 304, none⟩ := by unfold bF; dsimp only; rw [if_neg (by simp [c1]), if_pos rfl]
        rw [hD] at hk
        refine aF fun K hK => bS h1 ls2 tsE (by decide) (hq0 _) fun O2 os2 g2 h2 => hK _ ?_
        refine aF fun K hK => aG h2 ls2 me2 (fun _ _ _ _ _ => rfl) fun O3 os3 g3 h3 => hK _ ?_
        exact bL (hk O3 os3 _ ((g1.trans g2).trans g3) h3 rfl rfl rfl (by simp [hq, eCb]) rfl hsep)
      · refine bo (bU ld2 (by simpa using c2)) ?_
        first | refine sq5 ?_ | refine sq4 ?_ | refine sq3 ?_ | refine sq2 ?_ | refine sq1 ?_ | refine ar ?_ | skip
        refine bo (jl ld2) ?_
        first | refine sq5 ?_ | refine sq4 ?_ | refine sq3 ?_ | refine sq2 ?_ | refine sq1 ?_ | refine ar ?_ | skip
        have hD : bF (c :: r) = ⟨[.plain 7 eCc], false, 598, none⟩ := by unfold bF; dsimp only; rw [if_neg (by simp [c1]), if_neg c2]
        rw [hD] at hk
        refine aF fun K hK => p4 h1 ls2 tsE (by decide) (hq0 _) ld2 fun O2 os2 g2 h2 => hK _ ?_
        refine aF fun K hK => gf h2 ls2 ld2 rfl rfl fun os3 g3 h3 => hK _ ?_
        refine aF fun K hK => aG h3 ls2 mm4 (fun _ _ _ _ _ => rfl) fun O4 os4 g4 h4 => hK _ ?_
        exact bL (hk O4 os4 _ (((g1.trans g2).trans g3).trans g4) h4 rfl rfl rfl (by simp [hq, eCc]) rfl hsep)
theorem lE : qx F.tagOpenState cq := by
  intro O os t T k h hq hsep hk
  refine bW (loc := [(N.a, .obj t)]) rfl ?_
  unfold _root_.Mine.T.tagOpenState
  first | refine sq5 ?_ | refine sq4 ?_ | refine sq3 ?_ | refine sq2 ?_ | refine sq1 ?_ | refine ar ?_ | skip
  have hq0 : ∀ n, T.q.length ≤ n := fun n => by rw [hq]; exact Nat.zero_le _
  refine bJ ?_
  refine dr h (aE _ _ _) (fun hr os1 g1 h1 => ?_) (fun c r hr os1 g1 h1 => ?_)
  · dsimp only
    rw [cK]
    rw [hr] at hk
    refine bo (ed ld2) ?_
    first | refine sq5 ?_ | refine sq4 ?_ | refine sq3 ?_ | refine sq2 ?_ | refine sq1 ?_ | refine ar ?_ | skip
    refine bo (ed ld2) ?_
    first | refine sq5 ?_ | refine sq4 ?_ | refine sq3 ?_ | refine sq2 ?_ | refine sq1 ?_ | refine ar ?_ | skip
    refine bo (cIn ld2 (oJ _)) ?_
    first | refine sq5 ?_ | refine sq4 ?_ | refine sq3 ?_ | refine sq2 ?_ | refine sq1 ?_ | refine ar ?_ | skip
    refine bo (ed ld2) ?_
    first | refine sq5 ?_ | refine sq4 ?_ | refine sq3 ?_ | refine sq2 ?_ | refine sq1 ?_ | refine ar ?_ | skip
    refine bo (ed ld2) ?_
    first | refine sq5 ?_ | refine sq4 ?_ | refine sq3 ?_ | refine sq2 ?_ | refine sq1 ?_ | refine ar ?_ | skip
    refine aF fun K hK => bS h1 ls2 tsE (by decide) (hq0 _) fun O2 os2 g2 h2 => hK _ ?_
    refine aF fun K hK => bS h2 ls2 tsC (by decide) (by simp [hq]) fun O3 os3 g3 h3 => hK _ ?_
    refine aF fun K hK => fy h3 ls2 ld2 (hK _ ?_)
    refine aF fun K hK => aG h3 ls2 me2 (fun _ _ _ _ _ => rfl) fun O4 os4 g4 h4 => hK _ ?_
    exact bL (hk O4 os4 _ (((g1.trans g2).trans g3).trans g4) h4 hr rfl rfl (by simp [hq, cq, eNm]) rfl hsep)
  · dsimp only
    rw [cK]
    rw [hr] at hk
    by_cases c1 : c = 33
    · subst c1
      refine cz (cJ ld2 rfl) ?_
      first | refine sq5 ?_ | refine sq4 ?_ | refine sq3 ?_ | refine sq2 ?_ | refine sq1 ?_ | refine ar ?_ | skip
      refine aF fun K hK => aG h1 ls2 mm1 (fun _ _ _ _ _ => rfl) fun O2 os2 g2 h2 => hK _ ?_
      exact bL (hk O2 os2 _ (g1.trans g2) h2 rfl rfl rfl hq rfl hsep)
    refine bo (bU ld2 (by simpa using c1)) ?_
    first | refine sq5 ?_ | refine sq4 ?_ | refine sq3 ?_ | refine sq2 ?_ | refine sq1 ?_ | refine ar ?_ | skip
    by_cases c2 : c = 47
    · subst c2
      refine cz (cJ ld2 rfl) ?_
      first | refine sq5 ?_ | refine sq4 ?_ | refine sq3 ?_ | refine sq2 ?_ | refine sq1 ?_ | refine ar ?_ | skip
      refine aF fun K hK => aG h1 ls2 mm2 (fun _ _ _ _ _ => rfl) fun O2 os2 g2 h2 => hK _ ?_
      exact bL (hk O2 os2 _ (g1.trans g2) h2 rfl rfl rfl hq rfl hsep)
    refine bo (bU ld2 (by simpa using c2)) ?_
    first | refine sq5 ?_ | refine sq4 ?_ | refine sq3 ?_ | refine sq2 ?_ | refine sq1 ?_ | refine ar ?_ | skip
    cases c3 : a8 c alL with
    | true =>
      refine cz (cIn ld2 (by rw [m8, c3])) ?_
      first | refine sq5 ?_ | refine sq4 ?_ | refine sq3 ?_ | refine sq2 ?_ | refine sq1 ?_ | refine ar ?_ | skip
      have hD : cq (c :: r) = ⟨[], true, 367, some (.tag 3 [c] 0 false false)⟩ := by unfold cq; dsimp only; rw [if_neg c1, if_neg c2, if_pos c3]
      rw [hD] at hk
      refine aF fun K hK => d9 (r := [.dict (cO 3 [c] (os1.length + 1) false true), .list []]) (b := true) h1 ls2 (fun K2 hK2 => rS ld2 sU K2 hK2) (j5 (.inl rfl) (by simp)) (fun _ k hk' => by simp [hq] at hk') fun O2 os2 g2 h2 => hK _ ?_
      refine aF fun K hK => aG h2 ls2 mm3 (fun _ _ _ _ _ => rfl) fun O3 os3 g3 h3 => hK _ ?_
      exact bL (hk O3 os3 _ ((g1.trans g2).trans g3) h3 rfl rfl rfl hq rfl rfl)
    | false =>
      refine bo (cIn ld2 (by rw [m8, c3])) ?_
      first | refine sq5 ?_ | refine sq4 ?_ | refine sq3 ?_ | refine sq2 ?_ | refine sq1 ?_ | refine ar ?_ | skip
      by_cases c4 : c = 62
      · subst c4
        refine cz (cJ ld2 rfl) ?_
        first | refine sq5 ?_ | refine sq4 ?_ | refine sq3 ?_ | refine sq2 ?_ | refine sq1 ?_ | refine ar ?_ | skip
        have hD : cq (62 :: r) = ⟨[.plain 7 eBr, .plain 1 [60, 62]], true, 304, none⟩ := by unfold cq; dsimp only; rw [if_neg c1, if_neg c2, if_neg (by simp [c3]), if_pos rfl]
        rw [hD] at hk
        refine aF fun K hK => bS h1 ls2 tsE (by decide) (hq0 _) fun O2 os2 g2 h2 => hK _ ?_
        refine aF fun K hK => bS h2 ls2 tsC (by decide) (by simp [hq]) fun O3 os3 g3 h3 => hK _ ?_
        refine aF fun K hK => aG h3 ls2 me2 (fun _ _ _ _ _ => rfl) fun O4 os4 g4 h4 => hK _ ?_
        exact bL (hk O4 os4 _ (((g1.trans g2).trans g3).trans g4) h4 rfl rfl rfl (by simp [hq, eBr]) rfl hsep)
      refine bo (bU ld2 (by simpa using c4)) ?_
      first | refine sq5 ?_ | refine sq4 ?_ | refine sq3 ?_ | refine sq2 ?_ | refine sq1 ?_ | refine ar ?_ | skip
      by_cases c5 : c = 63
      · subst c5
        refine cz (cJ ld2 rfl) ?_
        first | refine sq5 ?_ | refine sq4 ?_ | refine sq3 ?_ | refine sq2 ?_ | refine sq1 ?_ | refine ar ?_ | skip
        have hD : cq (63 :: r) = ⟨[.plain 7 eQm], false, 598, none⟩ := by unfold cq; dsimp only; rw [if_neg c1, if_neg c2, if_neg (by simp [c3]), if_neg c4, if_pos rfl]
        rw [hD] at hk
        refine aF fun K hK => bS h1 ls2 tsE (by decide) (hq0 _) fun O2 os2 g2 h2 => hK _ ?_
        refine aF fun K hK => gf h2 ls2 ld2 rfl rfl fun os3 g3 h3 => hK _ ?_
        refine aF fun K hK => aG h3 ls2 mm4 (fun _ _ _ _ _ => rfl) fun O4 os4 g4 h4 => hK _ ?_
        exact bL (hk O4 os4 _ (((g1.trans g2).trans g3).trans g4) h4 rfl rfl rfl (by simp [hq, eQm]) rfl hsep)
      refine bo (bU ld2 (by simpa using c5)) ?_
      first | refine sq5 ?_ | refine sq4 ?_ | refine sq3 ?_ | refine sq2 ?_ | refine sq1 ?_ | refine ar ?_ | skip
      have hD : cq (c :: r) = ⟨[.plain 7 eNm, .plain 1 [60]], false, 304, none⟩ := by unfold cq; dsimp only; rw [if_neg c1, if_neg c2, if_neg (by simp [c3]), if_neg c4, if_neg c5]
      rw [hD] at hk
      refine aF fun K hK => bS h1 ls2 tsE (by decide) (hq0 _) fun O2 os2 g2 h2 => hK _ ?_
      refine aF fun K hK => bS h2 ls2 tsC (by decide) (by simp [hq]) fun O3 os3 g3 h3 => hK _ ?_
      refine aF fun K hK => gf h3 ls2 ld2 rfl rfl fun os4 g4 h4 => hK _ ?_
      refine aF fun K hK => aG h4 ls2 me2 (fun _ _ _ _ _ => rfl) fun O5 os5 g5 h5 => hK _ ?_
      exact bL (hk O5 os5 _ ((((g1.trans g2).trans g3).trans g4).trans g5) h5 rfl rfl rfl (by simp [hq, eNm]) rfl hsep)
end
theorem qy {C : TB} {A B U : TS} {st st' : St} {k : AF → St → Prop} (hc : ∀ K : Bool → St → Prop, K true st' → C st K) (h : ae A U st' k) : ae (aIf C A B) U st k := hc _ h
theorem mz {C : TB} {A B U : TS} {st st' : St} {k : AF → St → Prop} (hc : ∀ K : Bool → St → Prop, K false st' → C st K) (h : ae B U st' k) : ae (aIf C A B) U st k := hc _ h
section
variable {O Os : Nat → Prop} {os : List AO} {t : Nat} {T : Ts} {l4 m : Nat} {Q : List AV} {loc : List (Nat × AV)}
noncomputable def eEn : List Nat := [101, 111, 102, 45, 105, 110, 45, 116, 97, 103, 45, 110, 97, 109, 101]
noncomputable def dX (c : Nat) : Nat := if c = 0 then 65533 else c
noncomputable def dY (c : Nat) : List Tok := if c = 0 then [.plain 7 dN] else []
theorem na {c : Nat} {r : List Nat} {kd : Int} {nm : List Nat} {k : AV → List AO → Prop} (h : TV O os t T) (hr : T.S.rem = c :: r) (hc : T.cur = some (.tag kd nm 0 false false)) (hs : T.sep = true) (h1 : a8 c spL = false) (h2 : c ≠ 62) (h3 : c ≠ 47) (hn : nm.length ≤ 8000) (hq : T.q.length ≤ 5000)
    (hk : ∀ O' os' T', Grow O os O' os' → TV O' os' t T' → T'.S.rem = r → T'.S.pos = adv T.S.pos c → T'.cur = some (.tag kd (nm ++ [dX c]) 0 false false) → T'.q = T.q ++ dY c → T'.sep = true → k (.bool true) os') : F.tagNameState [.obj t] os k := by
  refine bW (loc := [(N.a, .obj t)]) rfl ?_
  unfold _root_.Mine.T.tagNameState
  first | refine sq5 ?_ | refine sq4 ?_ | refine sq3 ?_ | refine sq2 ?_ | refine sq1 ?_ | refine ar ?_ | skip
  refine bJ ?_
  refine dr h (aE _ _ _) (fun hr' os1 g1 h1' => by rw [hr] at hr'; cases hr') (fun c' r' hr' os1 g1 h1' => ?_)
  rw [hr] at hr'
  obtain ⟨rfl, rfl⟩ := List.cons.inj hr'
  dsimp only
  rw [cK]
  refine bo (cIn ld2 (by rw [j3, h1])) ?_
  first | refine sq5 ?_ | refine sq4 ?_ | refine sq3 ?_ | refine sq2 ?_ | refine sq1 ?_ | refine ar ?_ | skip
  refine bo (bU ld2 (by simpa using h2)) ?_
  first | refine sq5 ?_ | refine sq4 ?_ | refine sq3 ?_ | refine sq2 ?_ | refine sq1 ?_ | refine ar ?_ | skip
  refine bo (jl ld2) ?_
  first | refine sq5 ?_ | refine sq4 ?_ | refine sq3 ?_ | refine sq2 ?_ | refine sq1 ?_ | refine ar ?_ | skip
  refine bo (bU ld2 (by simpa using h3)) ?_
  first | refine sq5 ?_ | refine sq4 ?_ | refine sq3 ?_ | refine sq2 ?_ | refine sq1 ?_ | refine ar ?_ | skip
  by_cases h0 : c = 0
  · subst h0
    refine cz (cJ ld2 rfl) ?_
    first | refine sq5 ?_ | refine sq4 ?_ | refine sq3 ?_ | refine sq2 ?_ | refine sq1 ?_ | refine ar ?_ | skip
    refine aF fun K hK => bS h1' ls2 tsE (by decide) (by show T.q.length ≤ _; lia) fun O2 os2 g2 h2' => hK _ ?_
    refine aF fun K hK => mx h2' ls2 hc hs (v := [65533]) (fun K hK => hK) (by simp; lia) fun os3 g3 h3' => hK _ ?_
    exact bL (hk O2 os3 _ ((g1.trans g2).trans g3) h3' rfl rfl rfl rfl hs)
  · refine bo (bU ld2 (by simpa using h0)) ?_
    first | refine sq5 ?_ | refine sq4 ?_ | refine sq3 ?_ | refine sq2 ?_ | refine sq1 ?_ | refine ar ?_ | skip
    refine aF fun K hK => mx h1' ls2 hc hs (v := [c]) (fun K hK => by simp only [aa, ld2]; exact hK) (by simp; lia) fun os3 g3 h3' => hK _ ?_
    exact bL (hk O os3 _ (g1.trans g3) h3' rfl rfl (by simp [dX, h0]) (by simp [dY, h0]) hs)
noncomputable def cY (kd : Int) (nm : List Nat) : List Nat → One
  | [] => ⟨[.plain 7 eEn], false, 304, some (.tag kd nm 0 false false)⟩
  | c :: _ => if a8 c spL = true then ⟨[], true, 535, some (.tag kd nm 0 false false)⟩ else
    if c = 62 then ⟨dH kd false ++ [ch kd nm false], true, 304, some (ch kd nm false)⟩ else ⟨[], true, 591, some (.tag kd nm 0 false false)⟩
theorem oK {kd : Int} {nm : List Nat} {k : AV → List AO → Prop} (h : TV O os t T) (hc : T.cur = some (.tag kd nm 0 false false)) (hs : T.sep = true) (he : ∀ c r, T.S.rem = c :: r → a8 c spL = true ∨ c = 62 ∨ c = 47) (hn : nm.length ≤ 8000) (hsm : ∀ c ∈ nm, c ≤ 0x10FFFF) (hq : T.q.length ≤ 5000)
    (hk : ∀ O' os' T', Grow O os O' os' → TV O' os' t T' → T'.S.rem = fz (cY kd nm T.S.rem).gone T.S.rem → T'.S.pos = gj (cY kd nm T.S.rem).gone T.S.pos T.S.rem → T'.cur = (cY kd nm T.S.rem).cur → T'.q = T.q ++ (cY kd nm T.S.rem).q → T'.st = (cY kd nm T.S.rem).st → k (.bool true) os') : F.tagNameState [.obj t] os k := by
  refine bW (loc := [(N.a, .obj t)]) rfl ?_
  unfold _root_.Mine.T.tagNameState
  first | refine sq5 ?_ | refine sq4 ?_ | refine sq3 ?_ | refine sq2 ?_ | refine sq1 ?_ | refine ar ?_ | skip
  refine bJ ?_
  refine dr h (aE _ _ _) (fun hr os1 g1 h1 => ?_) (fun c r hr os1 g1 h1 => ?_)
  · dsimp only
    rw [cK]
    rw [hr] at hk
    refine bo (cIn ld2 (qv _)) ?_
    first | refine sq5 ?_ | refine sq4 ?_ | refine sq3 ?_ | refine sq2 ?_ | refine sq1 ?_ | refine ar ?_ | skip
    refine bo (ed ld2) ?_
    first | refine sq5 ?_ | refine sq4 ?_ | refine sq3 ?_ | refine sq2 ?_ | refine sq1 ?_ | refine ar ?_ | skip
    refine cz (kR ld2) ?_
    first | refine sq5 ?_ | refine sq4 ?_ | refine sq3 ?_ | refine sq2 ?_ | refine sq1 ?_ | refine ar ?_ | skip
    refine aF fun K hK => bS h1 ls2 tsE (by decide) (by show T.q.length ≤ _; lia) fun O2 os2 g2 h2 => hK _ ?_
    refine aF fun K hK => aG h2 ls2 me2 (fun _ _ _ _ _ => rfl) fun O3 os3 g3 h3 => hK _ ?_
    exact bL (hk O3 os3 _ ((g1.trans g2).trans g3) h3 hr rfl hc rfl rfl)
  · dsimp only
    rw [cK]
    have he' := he c r hr
    rw [hr] at hk
    cases c1 : a8 c spL with
    | true =>
      have hD : cY kd nm (c :: r) = ⟨[], true, 535, some (.tag kd nm 0 false false)⟩ := by unfold cY; dsimp only; rw [if_pos c1]
      rw [hD] at hk
      refine cz (cIn ld2 (by rw [j3, c1])) ?_
      first | refine sq5 ?_ | refine sq4 ?_ | refine sq3 ?_ | refine sq2 ?_ | refine sq1 ?_ | refine ar ?_ | skip
      refine aF fun K hK => aG h1 ls2 mm5 (fun _ _ _ _ _ => rfl) fun O2 os2 g2 h2 => hK _ ?_
      exact bL (hk O2 os2 _ (g1.trans g2) h2 rfl rfl hc (by simp) rfl)
    | false =>
      refine bo (cIn ld2 (by rw [j3, c1])) ?_
      first | refine sq5 ?_ | refine sq4 ?_ | refine sq3 ?_ | refine sq2 ?_ | refine sq1 ?_ | refine ar ?_ | skip
      by_cases c2 : c = 62
      · subst c2
        have hD : cY kd nm (62 :: r) = ⟨dH kd false ++ [ch kd nm false], true, 304, some (ch kd nm false)⟩ := by unfold cY; dsimp only; rw [if_neg (by simp [c1]), if_pos rfl]
        rw [hD] at hk
        refine cz (cJ ld2 rfl) ?_
        first | refine sq5 ?_ | refine sq4 ?_ | refine sq3 ?_ | refine sq2 ?_ | refine sq1 ?_ | refine ar ?_ | skip
        refine aF fun K hK => j2 h1 ls2 hc hs (by show T.q.length ≤ _; lia) hsm fun O2 os2 g2 h2 => hK _ ?_
        exact bL (hk O2 os2 _ (g1.trans g2) h2 rfl rfl rfl (by simp) rfl)
      · have c3 : c = 47 := by
          rcases he' with q | q | q
          · rw [c1] at q; cases q
          · exact absurd q c2
          · exact q
        subst c3
        have hD : cY kd nm (47 :: r) = ⟨[], true, 591, some (.tag kd nm 0 false false)⟩ := by unfold cY; dsimp only; rw [if_neg (by simp [c1]), if_neg c2]
        rw [hD] at hk
        refine bo (bU ld2 (by simp)) ?_
        first | refine sq5 ?_ | refine sq4 ?_ | refine sq3 ?_ | refine sq2 ?_ | refine sq1 ?_ | refine ar ?_ | skip
        refine bo (jl ld2) ?_
        first | refine sq5 ?_ | refine sq4 ?_ | refine sq3 ?_ | refine sq2 ?_ | refine sq1 ?_ | refine ar ?_ | skip
        refine cz (cJ ld2 rfl) ?_
        first | refine sq5 ?_ | refine sq4 ?_ | refine sq3 ?_ | refine sq2 ?_ | refine sq1 ?_ | refine ar ?_ | skip
        refine aF fun K hK => aG h1 ls2 mm6 (fun _ _ _ _ _ => rfl) fun O2 os2 g2 h2 => hK _ ?_
        exact bL (hk O2 os2 _ (g1.trans g2) h2 rfl rfl hc (by simp) rfl)
noncomputable def gz (T : Ts) : Prop := T.sep = true ∧ ∃ kd nm, T.cur = some (.tag kd nm 0 false false) ∧ ∀ c ∈ nm, c ≤ 0x10FFFF
noncomputable def j6 : Option Tok → Option Tok
  | some (.tag kd nm n sc d) => some (.tag kd nm (n + 1) sc d)
  | x => x
noncomputable def qz (sc : Bool) : Option Tok → Option Tok
  | some (.tag kd nm _ _ _) => some (ch kd nm sc)
  | x => x
noncomputable def qA (sc : Bool) : Option Tok → List Tok
  | some (.tag kd nm _ _ _) => dH kd sc ++ [ch kd nm sc]
  | _ => []
noncomputable def eSe : List Nat := [117, 110, 101, 120, 112, 101, 99, 116, 101, 100, 45, 69, 79, 70, 45, 97, 102, 116, 101, 114, 45, 115, 111, 108, 105, 100, 117, 115, 45, 105, 110, 45, 116, 97, 103]
noncomputable def eSc : List Nat := [117, 110, 101, 120, 112, 101, 99, 116, 101, 100, 45, 99, 104, 97, 114, 97, 99, 116, 101, 114, 45, 97, 102, 116, 101, 114, 45, 115, 111, 108, 105, 100, 117, 115, 45, 105, 110, 45, 116, 97, 103]
noncomputable def gk (rem : List Nat) (cur : Option Tok) : Res := match rem with
  | [] => ⟨true, [], cur, [.plain 7 eSe]⟩
  | c :: r => if c = 62 then ⟨true, r, qz true cur, qA true cur⟩ else ⟨true, c :: r, cur, [.plain 7 eSc]⟩
theorem nc : lC F.selfClosingStartTagState gk gz := by
  rintro O os t T k h ⟨hs, kd, nm, hc, hsm⟩ hq hk
  refine bW (loc := [(N.a, .obj t)]) rfl ?_
  unfold _root_.Mine.T.selfClosingStartTagState
  first | refine sq5 ?_ | refine sq4 ?_ | refine sq3 ?_ | refine sq2 ?_ | refine sq1 ?_ | refine ar ?_ | skip
  refine bJ ?_
  refine dr h (aE _ _ _) (fun hr os1 g1 h1 => ?_) (fun c r hr os1 g1 h1 => ?_)
  · dsimp only
    rw [cK]
    rw [hr] at hk
    refine bo (ed ld2) ?_
    first | refine sq5 ?_ | refine sq4 ?_ | refine sq3 ?_ | refine sq2 ?_ | refine sq1 ?_ | refine ar ?_ | skip
    refine cz (kR ld2) ?_
    first | refine sq5 ?_ | refine sq4 ?_ | refine sq3 ?_ | refine sq2 ?_ | refine sq1 ?_ | refine ar ?_ | skip
    refine aF fun K hK => bS h1 ls2 tsE (by decide) (by show T.q.length ≤ _; lia) fun O2 os2 g2 h2 => hK _ ?_
    refine aF fun K hK => fy h2 ls2 ld2 (hK _ ?_)
    refine aF fun K hK => aG h2 ls2 me2 (fun _ _ _ _ _ => rfl) fun O3 os3 g3 h3 => hK _ ?_
    exact bL (hk O3 os3 _ ((g1.trans g2).trans g3) h3 hr rfl rfl)
  · dsimp only
    rw [cK]
    rw [hr] at hk
    by_cases c2 : c = 62
    · subst c2
      have hD : gk (62 :: r) T.cur = ⟨true, r, some (ch kd nm true), dH kd true ++ [ch kd nm true]⟩ := by unfold gk; dsimp only; rw [if_pos rfl, hc]; rfl
      rw [hD] at hk
      refine cz (cJ ld2 rfl) ?_
      first | refine sq5 ?_ | refine sq4 ?_ | refine sq3 ?_ | refine sq2 ?_ | refine sq1 ?_ | refine ar ?_ | skip
      refine aF fun K hK => oH h1 ls2 hc hs fun os2 g2 h2 => hK _ ?_
      refine aF fun K hK => j2 h2 ls2 rfl hs (by show T.q.length ≤ _; lia) hsm fun O3 os3 g3 h3 => hK _ ?_
      exact bL (hk O3 os3 _ ((g1.trans g2).trans g3) h3 rfl rfl (by simp))
    · have hD : gk (c :: r) T.cur = ⟨true, c :: r, T.cur, [.plain 7 eSc]⟩ := by unfold gk; dsimp only; rw [if_neg c2]
      rw [hD] at hk
      refine bo (bU ld2 (by simpa using c2)) ?_
      first | refine sq5 ?_ | refine sq4 ?_ | refine sq3 ?_ | refine sq2 ?_ | refine sq1 ?_ | refine ar ?_ | skip
      refine bo (jl ld2) ?_
      first | refine sq5 ?_ | refine sq4 ?_ | refine sq3 ?_ | refine sq2 ?_ | refine sq1 ?_ | refine ar ?_ | skip
      refine aF fun K hK => bS h1 ls2 tsE (by decide) (by show T.q.length ≤ _; lia) fun O2 os2 g2 h2 => hK _ ?_
      refine aF fun K hK => gf h2 ls2 ld2 rfl rfl fun os3 g3 h3 => hK _ ?_
      refine aF fun K hK => aG h3 ls2 mm5 (fun _ _ _ _ _ => rfl) fun O4 os4 g4 h4 => hK _ ?_
      exact bL (hk O4 os4 _ (((g1.trans g2).trans g3).trans g4) h4 rfl rfl rfl)
noncomputable def eAi : List Nat := [105, 110, 118, 97, 108, 105, 100, 45, 99, 104, 97, 114, 97, 99, 116, 101, 114, 45, 105, 110, 45, 97, 116, 116, 114, 105, 98, 117, 116, 101, 45, 110, 97, 109, 101]
noncomputable def eAe : List Nat := [101, 120, 112, 101, 99, 116, 101, 100, 45, 97, 116, 116, 114, 105, 98, 117, 116, 101, 45, 110, 97, 109, 101, 45, 98, 117, 116, 45, 103, 111, 116, 45, 101, 111, 102]
noncomputable def di (rem : List Nat) (cur : Option Tok) : Res := match rem with
  | [] => ⟨true, [], cur, [.plain 7 eAe]⟩
  | c :: r => if a8 c spL = true then ⟨true, r.dropWhile (fun d => decide (a8 d spL = true)), cur, []⟩ else
    if a8 c alL = true then ⟨true, r, j6 cur, []⟩ else
    if c = 62 then ⟨true, r, qz false cur, qA false cur⟩ else
    if c = 47 then ⟨true, r, cur, []⟩ else
    if a8 c [39, 34, 61, 60] = true then ⟨true, r, j6 cur, [.plain 7 eAi]⟩ else
    if c = 0 then ⟨true, r, j6 cur, [.plain 7 dN]⟩ else ⟨true, r, j6 cur, []⟩
theorem nf : lC F.beforeAttributeNameState di gz := by
  rintro O os t T k h ⟨hs, kd, nm, hc, hsm⟩ hq hk
  refine bW (loc := [(N.a, .obj t)]) rfl ?_
  unfold _root_.Mine.T.beforeAttributeNameState
  first | refine sq5 ?_ | refine sq4 ?_ | refine sq3 ?_ | refine sq2 ?_ | refine sq1 ?_ | refine ar ?_ | skip
  have hb : j6 T.cur = some (.tag kd nm 1 false false) := by rw [hc]; rfl
  have tup4 : ∀ (os : List AO) (v : AV) (b : Bool), ag N.b [(N.a, AV.obj t), (N.b, v)] = some v → bz tb (os ++ [.tup [.str [39], .str [34], .str [61], .str [60]]]) .In v (.obj os.length) = some b → ∀ K : Bool → St → Prop, K b ⟨[(N.a, AV.obj t), (N.b, v)], os ++ [.tup [.str [39], .str [34], .str [61], .str [60]]]⟩ → aq tb .In (aa N.b) (bq [(ad (.str [39])), (ad (.str [34])), (ad (.str [61])), (ad (.str [60]))]) ⟨[(N.a, AV.obj t), (N.b, v)], os⟩ K := by
    intro os v b hl hcmp K hK
    have b4 : ∀ a b c d : AV, Nat.ble [a, b, c, d].length 1000 = true := fun _ _ _ _ => rfl
    simp only [aq, aa, hl, bq, aX, ad, b4, cond_true, hcmp]; exact hK
  refine bJ ?_
  refine dr h (aE _ _ _) (fun hr os1 g1 h1 => ?_) (fun c r hr os1 g1 h1 => ?_)
  · dsimp only
    rw [cK]
    rw [hr] at hk
    refine bo (cIn ld2 (qv _)) ?_
    first | refine sq5 ?_ | refine sq4 ?_ | refine sq3 ?_ | refine sq2 ?_ | refine sq1 ?_ | refine ar ?_ | skip
    refine bo (cIn ld2 (oJ _)) ?_
    first | refine sq5 ?_ | refine sq4 ?_ | refine sq3 ?_ | refine sq2 ?_ | refine sq1 ?_ | refine ar ?_ | skip
    refine bo (ed ld2) ?_
    first | refine sq5 ?_ | refine sq4 ?_ | refine sq3 ?_ | refine sq2 ?_ | refine sq1 ?_ | refine ar ?_ | skip
    refine bo (ed ld2) ?_
    first | refine sq5 ?_ | refine sq4 ?_ | refine sq3 ?_ | refine sq2 ?_ | refine sq1 ?_ | refine ar ?_ | skip
    have e4 : bz tb (os1 ++ [.tup [.str [39], .str [34], .str [61], .str [60]]]) .In .none (.obj os1.length) = some false := by
      show (match (match (os1 ++ [AO.tup [.str [39], .str [34], .str [61], .str [60]]])[os1.length]? with
        | some (.list vs) => some (false, vs)
        | some (.tup vs) => some (true, vs)
        | _ => none : Option (Bool × List AV)) with
          | some (true, l) => gF .none l
          | _ => none) = _
      rw [bf rfl]; rfl
    refine mz (tup4 _ _ _ ld2 e4) ?_
    first | refine sq5 ?_ | refine sq4 ?_ | refine sq3 ?_ | refine sq2 ?_ | refine sq1 ?_ | refine ar ?_ | skip
    refine bo (ed ld2) ?_
    first | refine sq5 ?_ | refine sq4 ?_ | refine sq3 ?_ | refine sq2 ?_ | refine sq1 ?_ | refine ar ?_ | skip
    refine cz (kR ld2) ?_
    first | refine sq5 ?_ | refine sq4 ?_ | refine sq3 ?_ | refine sq2 ?_ | refine sq1 ?_ | refine ar ?_ | skip
    have ga : Grow O os1 O (os1 ++ [AO.tup [.str [39], .str [34], .str [61], .str [60]]]) := Grow.of (Kp.app _ _ _)
    refine aF fun K hK => bS (h1.app _) ls2 tsE (by decide) (by show T.q.length ≤ _; lia) fun O2 os2 g2 h2 => hK _ ?_
    refine aF fun K hK => aG h2 ls2 me2 (fun _ _ _ _ _ => rfl) fun O3 os3 g3 h3 => hK _ ?_
    exact bL (hk O3 os3 _ (((g1.trans ga).trans g2).trans g3) h3 hr rfl rfl)
  · dsimp only
    rw [cK]
    rw [hr] at hk
    cases c1 : a8 c spL with
    | true =>
      have hD : di (c :: r) T.cur = ⟨true, r.dropWhile (fun d => decide (a8 d spL = true)), T.cur, []⟩ := by unfold di; dsimp only; rw [if_pos c1]
      rw [hD] at hk
      refine cz (cIn ld2 (by rw [j3, c1])) ?_
      first | refine sq5 ?_ | refine sq4 ?_ | refine sq3 ?_ | refine sq2 ?_ | refine sq1 ?_ | refine ar ?_ | skip
      refine aF fun K hK => ?_
      unfold aK
      refine cU (r := []) (avs := [.glob (.ref 22), .bool true]) (opp := true) (chars := .glob (.ref 22)) (P := fun c => a8 c spL) h1 ls2 (.inr rfl) (fun K3 hK3 => ?_) (fun os' _ c => j3 os' c) fun os2 S' g2 hS h2 => ?_
      · rw [List.append_nil] at hK3
        simp only [aX, ad]; exact hK3
      · refine hK _ ?_
        exact bL (hk O os2 _ (g1.trans g2) h2 hS rfl (by simp))
    | false =>
    refine bo (cIn ld2 (by rw [j3, c1])) ?_
    first | refine sq5 ?_ | refine sq4 ?_ | refine sq3 ?_ | refine sq2 ?_ | refine sq1 ?_ | refine ar ?_ | skip
    cases c2 : a8 c alL with
    | true =>
      have hD : di (c :: r) T.cur = ⟨true, r, j6 T.cur, []⟩ := by unfold di; dsimp only; rw [if_neg (by simp [c1]), if_pos c2]
      rw [hD, hb] at hk
      refine cz (cIn ld2 (by rw [m8, c2])) ?_
      first | refine sq5 ?_ | refine sq4 ?_ | refine sq3 ?_ | refine sq2 ?_ | refine sq1 ?_ | refine ar ?_ | skip
      refine aF fun K hK => gV (v := .str [c]) h1 ls2 hc hs (by lia) (fun os' K hK => by simp only [aa, ld2]; exact hK) fun os2 g2 h2 => hK _ ?_
      refine aF fun K hK => aG h2 ls2 mm7 (fun _ _ _ _ _ => rfl) fun O3 os3 g3 h3 => hK _ ?_
      exact bL (hk O3 os3 _ ((g1.trans g2).trans g3) h3 rfl rfl (by simp))
    | false =>
    refine bo (cIn ld2 (by rw [m8, c2])) ?_
    first | refine sq5 ?_ | refine sq4 ?_ | refine sq3 ?_ | refine sq2 ?_ | refine sq1 ?_ | refine ar ?_ | skip
    by_cases c3 : c = 62
    · subst c3
      have hD : di (62 :: r) T.cur = ⟨true, r, some (ch kd nm false), dH kd false ++ [ch kd nm false]⟩ := by unfold di; dsimp only; rw [if_neg (by simp [c1]), if_neg (by simp [c2]), if_pos rfl, hc]; rfl
      rw [hD] at hk
      refine cz (cJ ld2 rfl) ?_
      first | refine sq5 ?_ | refine sq4 ?_ | refine sq3 ?_ | refine sq2 ?_ | refine sq1 ?_ | refine ar ?_ | skip
      refine aF fun K hK => j2 h1 ls2 hc hs (by show T.q.length ≤ _; lia) hsm fun O2 os2 g2 h2 => hK _ ?_
      exact bL (hk O2 os2 _ (g1.trans g2) h2 rfl rfl (by simp))
    refine bo (bU ld2 (by simpa using c3)) ?_
    first | refine sq5 ?_ | refine sq4 ?_ | refine sq3 ?_ | refine sq2 ?_ | refine sq1 ?_ | refine ar ?_ | skip
    by_cases c4 : c = 47
    · subst c4
      have hD : di (47 :: r) T.cur = ⟨true, r, T.cur, []⟩ := by unfold di; dsimp only; rw [if_neg (by simp [c1]), if_neg (by simp [c2]), if_neg c3, if_pos rfl]
      rw [hD] at hk
      refine cz (cJ ld2 rfl) ?_
      first | refine sq5 ?_ | refine sq4 ?_ | refine sq3 ?_ | refine sq2 ?_ | refine sq1 ?_ | refine ar ?_ | skip
      refine aF fun K hK => aG h1 ls2 mm6 (fun _ _ _ _ _ => rfl) fun O2 os2 g2 h2 => hK _ ?_
      exact bL (hk O2 os2 _ (g1.trans g2) h2 rfl rfl (by simp))
    refine bo (bU ld2 (by simpa using c4)) ?_
    first | refine sq5 ?_ | refine sq4 ?_ | refine sq3 ?_ | refine sq2 ?_ | refine sq1 ?_ | refine ar ?_ | skip
    have ga : Grow O os1 O (os1 ++ [AO.tup [.str [39], .str [34], .str [61], .str [60]]]) := Grow.of (Kp.app _ _ _)
    have h1a := h1.app [AO.tup [.str [39], .str [34], .str [61], .str [60]]]
    cases c5 : a8 c [39, 34, 61, 60] with
    | true =>
      have hD : di (c :: r) T.cur = ⟨true, r, j6 T.cur, [.plain 7 eAi]⟩ := by unfold di; dsimp only; rw [if_neg (by simp [c1]), if_neg (by simp [c2]), if_neg c3, if_neg c4, if_pos c5]
      rw [hD, hb] at hk
      refine qy (tup4 _ _ _ ld2 ((jm (l := [39, 34, 61, 60]) (bf rfl) c).trans (congrArg some c5))) ?_
      first | refine sq5 ?_ | refine sq4 ?_ | refine sq3 ?_ | refine sq2 ?_ | refine sq1 ?_ | refine ar ?_ | skip
      refine aF fun K hK => bS h1a ls2 tsE (by decide) (by show T.q.length ≤ _; lia) fun O2 os2 g2 h2 => hK _ ?_
      refine aF fun K hK => gV (v := .str [c]) h2 ls2 hc hs (by lia) (fun os' K hK => by simp only [aa, ld2]; exact hK) fun os3 g3 h3 => hK _ ?_
      refine aF fun K hK => aG h3 ls2 mm7 (fun _ _ _ _ _ => rfl) fun O4 os4 g4 h4 => hK _ ?_
      exact bL (hk O4 os4 _ ((((g1.trans ga).trans g2).trans g3).trans g4) h4 rfl rfl rfl)
    | false =>
    refine mz (tup4 _ _ _ ld2 ((jm (l := [39, 34, 61, 60]) (bf rfl) c).trans (congrArg some c5))) ?_
    first | refine sq5 ?_ | refine sq4 ?_ | refine sq3 ?_ | refine sq2 ?_ | refine sq1 ?_ | refine ar ?_ | skip
    by_cases c6 : c = 0
    · subst c6
      have hD : di (0 :: r) T.cur = ⟨true, r, j6 T.cur, [.plain 7 dN]⟩ := by unfold di; dsimp only; rw [if_neg (by simp [c1]), if_neg (by simp [c2]), if_neg c3, if_neg c4, if_neg (by simp [c5]), if_pos rfl]
      rw [hD, hb] at hk
      refine cz (cJ ld2 rfl) ?_
      first | refine sq5 ?_ | refine sq4 ?_ | refine sq3 ?_ | refine sq2 ?_ | refine sq1 ?_ | refine ar ?_ | skip
      refine aF fun K hK => bS h1a ls2 tsE (by decide) (by show T.q.length ≤ _; lia) fun O2 os2 g2 h2 => hK _ ?_
      refine aF fun K hK => gV (v := .str [65533]) h2 ls2 hc hs (by lia) (fun os' K hK => hK) fun os3 g3 h3 => hK _ ?_
      refine aF fun K hK => aG h3 ls2 mm7 (fun _ _ _ _ _ => rfl) fun O4 os4 g4 h4 => hK _ ?_
      exact bL (hk O4 os4 _ ((((g1.trans ga).trans g2).trans g3).trans g4) h4 rfl rfl rfl)
    refine bo (bU ld2 (by simpa using c6)) ?_
    first | refine sq5 ?_ | refine sq4 ?_ | refine sq3 ?_ | refine sq2 ?_ | refine sq1 ?_ | refine ar ?_ | skip
    refine bo (jl ld2) ?_
    first | refine sq5 ?_ | refine sq4 ?_ | refine sq3 ?_ | refine sq2 ?_ | refine sq1 ?_ | refine ar ?_ | skip
    have hD : di (c :: r) T.cur = ⟨true, r, j6 T.cur, []⟩ := by unfold di; dsimp only; rw [if_neg (by simp [c1]), if_neg (by simp [c2]), if_neg c3, if_neg c4, if_neg (by simp [c5]), if_neg c6]
    rw [hD, hb] at hk
    refine aF fun K hK => gV (v := .str [c]) h1a ls2 hc hs (by lia) (fun os' K hK => by simp only [aa, ld2]; exact hK) fun os2 g2 h2 => hK _ ?_
    refine aF fun K hK => aG h2 ls2 mm7 (fun _ _ _ _ _ => rfl) fun O3 os3 g3 h3 => hK _ ?_
    exact bL (hk O3 os3 _ (((g1.trans ga).trans g2).trans g3) h3 rfl rfl (by simp))
end
noncomputable def T.mkT : TS :=
  (ae (aK (aBM 2 bP (ak N.g (aa N.a)) [(bh [N.h, N.b] [(aU tb (ad (.glob (.ref 48))) (ad (.str [80, 97, 114, 115, 101, 69, 114, 114, 111, 114]))), (ad (.str [101, 120, 112, 101, 99, 116, 101, 100, 45, 100, 97, 115, 104, 101, 115, 45, 111, 114, 45, 100, 111, 99, 116, 121, 112, 101]))])]))
  (ae (dU (bY tb (aa N.l)) (ae (aK (aI N.T 163 F.unget (ak N.e (aa N.a)) [(aBM 2 nR (aa N.l) [])]))
  aj))
  (ae (ah N.i (bg N.ak (aa N.a)) (aa N.a))
  (ae (ay (ad (.bool true)))
  aj))))
noncomputable def T.mkB : TS :=
  (ae (aK (aBM 2 bP (aa N.l) [(aI N.u 133 F.char (ak N.e (aa N.a)) [])]))
  (ae (aIf (aq tb .NotIn (aU tb (aa N.l) (dE (ad (.int 1)))) (aa N.X)) (ae (aR N.S (ad (.bool false)))
  (ae (hJ .brk)
  aj)) aj)
  aj))
noncomputable def T.mk0 : TS :=
  (ae (aR N.l (cx [(aI N.u 133 F.char (ak N.e (aa N.a)) [])]))
  (ae (aIf (aq tb .Eq (aU tb (aa N.l) (dE (ad (.int 1)))) (ad (.str [45]))) (ae (aK (aBM 2 bP (aa N.l) [(aI N.u 133 F.char (ak N.e (aa N.a)) [])]))
  (ae (aIf (aq tb .Eq (aU tb (aa N.l) (dE (ad (.int 1)))) (ad (.str [45]))) (ae (ah N.m (bh [N.h, N.b] [(aU tb (ad (.glob (.ref 48))) (ad (.str [67, 111, 109, 109, 101, 110, 116]))), (ad (.str []))]) (aa N.a))
  (ae (ah N.i (bg N.bd (aa N.a)) (aa N.a))
  (ae (ay (ad (.bool true)))
  aj))) aj)
  aj)) (ae (aIf (aq tb .In (aU tb (aa N.l) (dE (ad (.int 1)))) (bq [(ad (.str [100])), (ad (.str [68]))])) (ae (aR N.S (ad (.bool true)))
  (ae (mN tb (bq [(bq [(ad (.str [111])), (ad (.str [79]))]), (bq [(ad (.str [99])), (ad (.str [67]))]), (bq [(ad (.str [116])), (ad (.str [84]))]), (bq [(ad (.str [121])), (ad (.str [89]))]), (bq [(ad (.str [112])), (ad (.str [80]))]), (bq [(ad (.str [101])), (ad (.str [69]))])]) (aY N.X) T.mkB)
  (ae (aIf (bY tb (aa N.S)) (ae (ah N.m (bh [N.h, N.k, N.aB, N.aE, N.av] [(aU tb (ad (.glob (.ref 48))) (ad (.str [68, 111, 99, 116, 121, 112, 101]))), (ad (.str [])), (ad .none), (ad .none), (ad (.bool true))]) (aa N.a))
  (ae (ah N.i (bg N.be (aa N.a)) (aa N.a))
  (ae (ay (ad (.bool true)))
  aj))) aj)
  aj))) aj)
  aj))
  T.mkT))
theorem rU : T.markupDeclarationOpenState = T.mk0 := rfl
section
variable {O Os : Nat → Prop} {os : List AO} {t : Nat} {T T0 : Ts} {l4 m : Nat} {Q : List AV} {loc : List (Nat × AV)}
noncomputable def stk (l : List Nat) (e : Bool) : List AV := l.map (fun c => AV.str [c]) ++ (if e then [.none] else [])
structure Rd (O : Nat → Prop) (os : List AO) (t : Nat) (T0 T : Ts) (cs : Nat) (l : List Nat) (e : Bool) : Prop where
  tv : TV O os t T
  ls : os[cs]? = some (.list (stk l e))
  nO : ¬ O cs
  rem : T0.S.rem = l ++ T.S.rem
  H : ∃ ps, T.S.H = ps ++ T0.S.H ∧ ps.map (·.1) = l.reverse
  eof : e = true → T.S.rem = []
  cur : T.cur = T0.cur
  q : T.q = T0.q
  sep : T.sep = T0.sep
  len : l.length ≤ 20
theorem Rd.char {cs : Nat} {l : List Nat} {K : AV → St → Prop} (h : Rd O os t T0 T cs l false) (hself : ag N.a loc = some (.obj t)) (hl : l.length < 20)
    (h0 : T.S.rem = [] → ∀ os' T', Kp (fun j => O j ∨ j = cs) os os' → Rd O (os'.set cs (.list (stk l true))) t T0 T' cs l true → os'[cs]? = some (.list (stk l false)) → K .none ⟨loc, os'⟩)
    (h1 : ∀ c r, T.S.rem = c :: r → ∀ os' T', Kp (fun j => O j ∨ j = cs) os os' → T'.S.rem = r → Rd O (os'.set cs (.list (stk (l ++ [c]) false))) t T0 T' cs (l ++ [c]) false → os'[cs]? = some (.list (stk l false)) → K (.str [c]) ⟨loc, os'⟩) :
    aI N.u 133 F.char (ak N.e (aa N.a)) [] ⟨loc, os⟩ K := by
  obtain ⟨ps, hps, hpl⟩ := h.H
  refine dr h.tv hself (fun hr os' g h' => ?_) (fun c r hr os' g h' => ?_)
  · have hcs : os'[cs]? = some (.list (stk l false)) := g.kp.at h.ls h.nO
    refine h0 hr os' _ (g.kp.sub fun j q => .inl q) ⟨h'.other (P := fun j => j = cs) (Kp.set rfl) (fun j hj q => h.nO (q ▸ hj)), aQ (ax hcs), h.nO, ?_, ⟨ps, hps, hpl⟩, fun _ => hr, h.cur, h.q, h.sep, h.len⟩ hcs
    have := h.rem
    exact this
  · have hcs : os'[cs]? = some (.list (stk l false)) := g.kp.at h.ls h.nO
    refine h1 c r hr os' _ (g.kp.sub fun j q => .inl q) rfl ⟨h'.other (P := fun j => j = cs) (Kp.set rfl) (fun j hj q => h.nO (q ▸ hj)), aQ (ax hcs), h.nO, ?_, ⟨(c, T.S.pos) :: ps, by show (c, T.S.pos) :: T.S.H = _; rw [hps]; rfl, by rw [List.map_cons, hpl]; simp⟩, fun q => Bool.noConfusion q, h.cur, h.q, h.sep, by simp; lia⟩ hcs
    rw [h.rem, hr]; simp
theorem gm (l : List Nat) (c : Nat) : stk l false ++ [.str [c]] = stk (l ++ [c]) false := by simp [stk]
theorem gX (l : List Nat) : stk l false ++ [.none] = stk l true := by simp [stk]
theorem fk (l : List Nat) (e : Bool) : (stk l e).length ≤ l.length + 1 := by cases e <;> simp [stk]
theorem Rd.push {cs : Nat} {l : List Nat} {k : AF → St → Prop} (h : Rd O os t T0 T cs l false) (hself : ag N.a loc = some (.obj t)) (hc : ag N.l loc = some (.obj cs)) (hl : l.length < 20)
    (h0 : T.S.rem = [] → ∀ os' T', Kp (fun j => O j ∨ j = cs) os os' → Rd O os' t T0 T' cs l true → k .next ⟨loc, os'⟩)
    (h1 : ∀ c r, T.S.rem = c :: r → ∀ os' T', Kp (fun j => O j ∨ j = cs) os os' → T'.S.rem = r → Rd O os' t T0 T' cs (l ++ [c]) false → k .next ⟨loc, os'⟩) :
    aK (aBM 2 bP (aa N.l) [(aI N.u 133 F.char (ak N.e (aa N.a)) [])]) ⟨loc, os⟩ k := by
  have b1 : (stk l false).length ≤ 100000 := by have := fk l false; lia
  refine mf (K := fun _ st' => k .next st') (af hc) (by show (match os[cs]? with | some (.list _) => 2 | _ => 0) = 2; rw [h.ls]) (h.char hself hl (fun hr os' T' g h' hcs => ⟨_, _, _, rfl, hcs, b1, ?_⟩) fun c r hr os' T' g hr' h' hcs => ⟨_, _, _, rfl, hcs, b1, ?_⟩)
  · rw [gX]; exact h0 hr _ T' (g.trans (Kp.set (.inr rfl))) h'
  · rw [gm]; exact h1 c r hr _ T' (g.trans (Kp.set (.inr rfl))) hr' h'
noncomputable def eDd : List Nat := [101, 120, 112, 101, 99, 116, 101, 100, 45, 100, 97, 115, 104, 101, 115, 45, 111, 114, 45, 100, 111, 99, 116, 121, 112, 101]
theorem p7 {os : List AO} {cs : Nat} {l : List Nat} {e : Bool} (h : os[cs]? = some (.list (stk l e))) (hl : l.length ≤ 20) : eS tb os (.obj cs) = some (!(stk l e).isEmpty) := by
  have b : Nat.ble (stk l e).length 1000000 = true := Nat.ble_eq_true_of_le (by have := fk l e; lia)
  unfold eS; dsimp only; rw [h]; dsimp only; rw [b]; rfl
inductive Bk (O : Nat → Prop) (t : Nat) (T0 T : Ts) (loc : List (Nat × AV)) (os : List AO) (cs n : Nat) (st : St) : Prop
  | mk (os' : List AO) (T' : Ts) (l' : List Nat) (e' : Bool) (e0 : st = ⟨loc, os'⟩) (h : Rd O os' t T0 T' cs l' e') (kp : Kp (fun j => O j ∨ j = cs) os os') (hn : n = (stk l' e').length) : Bk O t T0 T loc os cs n st
theorem p8 {cs : Nat} {l : List Nat} {e : Bool} {k : AF → St → Prop} (h : Rd O os t T0 T cs l e) (hself : ag N.a loc = some (.obj t)) (hc : ag N.l loc = some (.obj cs))
    (hk : ∀ os' T', Kp (fun j => O j ∨ j = cs) os os' → TV O os' t T' → T'.S.rem = T0.S.rem → T'.cur = T0.cur → T'.q = T.q → k .next ⟨loc, os'⟩) :
    dU (bY tb (aa N.l)) (ae (aK (aI N.T 163 F.unget (ak N.e (aa N.a)) [(aBM 2 nR (aa N.l) [])])) aj) ⟨loc, os⟩ k := by
  refine ⟨Bk O t T0 T loc os cs, ⟨_, os, T, l, e, rfl, h, Kp.refl _ _, rfl⟩, ?_⟩
  rintro n st ⟨os', T', l', e', rfl, h', kp, rfl⟩
  have hls := h'.ls
  have bl : (stk l' e').length ≤ 100000 := by have := fk l' e'; have := h'.len; lia
  refine eA (af hc) (p7 hls h'.len) _ ?_
  have step : ∀ (p : List AV) (v : AV) (K : AF → St → Prop), stk l' e' = p ++ [v] → (F.unget [.obj T'.s, v] (os'.set cs (.list p)) fun _ os2 => K .next ⟨loc, os2⟩) → ae (aK (aI N.T 163 F.unget (ak N.e (aa N.a)) [(aBM 2 nR (aa N.l) [])])) aj ⟨loc, os'⟩ K := by
    intro p v K hp hK
    obtain ⟨Os, l4, m, Q, tv⟩ := h'.tv
    rw [hp] at hls bl
    rw [List.length_append] at bl
    exact dF (k := fun _ st' => K .next st') tv hself mc2 (fun _ _ _ _ _ _ _ _ _ _ => rfl) (kz (af hc) (by show (match os'[cs]? with | some (.list _) => 2 | _ => 0) = 2; rw [hls]) dz ⟨_, _, _, rfl, hls, Nat.le_of_succ_le_succ bl, hK⟩)
  have hcl := ax hls
  have tvs : ∀ X, TV O (os'.set cs X) t T' := fun X => h'.tv.other (P := fun j => j = cs) (Kp.set rfl) fun j hj q => h'.nO (q ▸ hj)
  have kps : ∀ X, Kp (fun j => O j ∨ j = cs) os (os'.set cs X) := fun X => kp.trans (Kp.set (.inr rfl))
  obtain ⟨ps, hps, hpl⟩ := h'.H
  cases e' with
  | true =>
    have hne : (!(stk l' true).isEmpty) = true := by simp [stk]
    simp only [hne, cond_true]
    refine step (stk l' false) .none _ (gX l').symm ?_
    refine iG ?_
    refine ⟨_, ?_, _, T', l', false, rfl, ⟨tvs _, aQ hcl, h'.nO, h'.rem, ⟨ps, hps, hpl⟩, fun q => Bool.noConfusion q, h'.cur, h'.q, h'.sep, h'.len⟩, kps _, rfl⟩
    simp [stk]
  | false =>
    rcases (List.eq_nil_or_concat l').imp id (fun ⟨a, b, e⟩ => (⟨a, b, e.trans (List.concat_eq_append ..)⟩ : ∃ a b, l' = a ++ [b])) with rfl | ⟨l2, c, rfl⟩
    · show k .next ⟨loc, os'⟩
      refine hk os' T' kp h'.tv ?_ h'.cur (h'.q.trans h.q.symm)
      have := h'.rem
      rw [List.nil_append] at this
      exact this.symm
    · have hne : (!(stk (l2 ++ [c]) false).isEmpty) = true := by simp [stk]
      simp only [hne, cond_true]
      refine step (stk l2 false) (.str [c]) _ (gm l2 c).symm ?_
      rw [List.reverse_append] at hpl
      cases ps with
      | nil => cases hpl
      | cons x ps =>
        obtain ⟨x1, x2⟩ := x
        rw [List.map_cons] at hpl
        obtain ⟨e1, e2⟩ := List.cons.inj hpl
        have e1 : x1 = c := e1
        subst e1
        obtain ⟨Os, l4, m, Q, tv⟩ := tvs (.list (stk l2 false))
        refine kL tv.sv (hps.trans (List.cons_append ..)) fun os2 p hk2 _ sv => ?_
        have hlen := h'.len
        refine ⟨_, ?_, os2, { T' with S := ⟨p, x1 :: T'.S.rem, ps ++ T0.S.H, false⟩ }, l2, false, rfl, ⟨⟨Os, l4, m, Q, tv.strm hk2 sv⟩, hk2.at (aQ hcl) (fun q => h'.nO (tv.sub _ q)), h'.nO, ?_, ⟨ps, rfl, e2⟩, fun q => Bool.noConfusion q, h'.cur, h'.q, h'.sep, by simp at hlen; lia⟩, (kps _).trans (hk2.sub fun j q => .inl (tv.sub j q)), rfl⟩
        · simp [stk]
        · have := h'.rem
          rw [this]; simp
theorem eZ {os0 : List AO} {cs : Nat} {l : List Nat} {e : Bool} {k : AV → List AO → Prop} (h : Rd O os t T0 T cs l e) (hself : ag N.a loc = some (.obj t)) (hc : ag N.l loc = some (.obj cs)) (hq : T0.q.length ≤ 5000) (g0 : Kp O os0 os) (hcs : os0.length ≤ cs)
    (hk : ∀ O' os' T', Grow O os0 O' os' → TV O' os' t T' → T'.S.rem = T0.S.rem → T'.cur = T0.cur → T'.q = T0.q ++ [.plain 7 eDd] → k (.bool true) os') : _root_.Mine.T.mkT ⟨loc, os⟩ (gK k) := by
  unfold _root_.Mine.T.mkT
  have hlc := ax h.ls
  refine aF fun K hK => bS h.tv hself tsE (by decide) (by rw [h.q]; lia) fun O2 os2 g2 h2 => hK _ ?_
  have nO2 : ¬ O2 cs := fun q => (g2.new _ q).elim h.nO fun q2 => by lia
  have gg : Grow O os0 O2 os2 := (Grow.of g0).trans g2
  refine aF fun K hK => p8 (T0 := { T0 with q := T0.q ++ [.plain 7 eDd] }) (T := { T with q := T.q ++ [.plain 7 eDd] }) (O := O2) (cs := cs) (l := l) (e := e) ⟨h2, g2.kp.at h.ls h.nO, nO2, h.rem, h.H, h.eof, h.cur, by show T.q ++ _ = T0.q ++ _; rw [h.q], h.sep, h.len⟩ hself hc fun os3 T3 k3 h3 r1 r2 r3 => hK _ ?_
  refine aF fun K hK => aG h3 hself mm4 (fun _ _ _ _ _ => rfl) fun O4 os4 g4 h4 => hK _ ?_
  have gg3 : Grow O os0 O2 os3 := ⟨⟨Nat.le_trans gg.kp.1 k3.1, fun j hj hn => (k3.2 j (Nat.lt_of_lt_of_le hj gg.kp.1) (fun q => q.elim (fun q => (gg.new j q).elim hn fun q2 => by lia) fun q => by lia)).trans (gg.kp.2 j hj hn)⟩, gg.mono, gg.new⟩
  exact bL (hk O4 os4 _ (gg3.trans g4) h4 r1 r2 (by show T3.q = _; rw [r3, h.q]))
end
section
variable {O Os : Nat → Prop} {os : List AO} {t : Nat} {T T0 : Ts} {l4 m : Nat} {Q : List AV} {loc : List (Nat × AV)}
theorem iK {cs : Nat} {p : List AV} {v : AV} (h : os[cs]? = some (.list (p ++ [v]))) (hl : p.length ≤ 100) : cQ tb os (.obj cs) (.int (-1)) = some v := by
  have e : (p ++ [v]).length = p.length + 1 := List.length_append
  exact mo (cT h) (by rw [e]; lia) (kl (by rw [e]; exact Nat.succ_pos _)) (by rw [e, Nat.add_sub_cancel, List.getElem?_append_right (Nat.le_refl _), Nat.sub_self]; rfl)
theorem oM {cs : Nat} {p : List AV} {v : AV} (hc : ag N.l loc = some (.obj cs)) (h : os[cs]? = some (.list (p ++ [v]))) (hl : p.length ≤ 100) : Ev (aU tb (aa N.l) (dE (ad (.int 1)))) ⟨loc, os⟩ v ⟨loc, os⟩ := ey (af hc) (ip aA) (iK h hl)
theorem nh {cs : Nat} {p : List AV} {v g : AV} {op : CmpOp} {b : Bool} (hc : ag N.l loc = some (.obj cs)) (h : os[cs]? = some (.list (p ++ [v]))) (hl : p.length ≤ 100) (hcmp : bz tb os op v g = some b) :
    Ev (aq tb op (aU tb (aa N.l) (dE (ad (.int 1)))) (ad g)) ⟨loc, os⟩ b ⟨loc, os⟩ := be (oM hc h hl) aA hcmp
theorem oN {cs n : Nat} {p : List AV} {v g : AV} {op : CmpOp} {b : Bool} (hc : ag N.l loc = some (.obj cs)) (hn : ag n loc = some g) (h : os[cs]? = some (.list (p ++ [v]))) (hl : p.length ≤ 100) (hcmp : bz tb os op v g = some b) :
    Ev (aq tb op (aU tb (aa N.l) (dE (ad (.int 1)))) (aa n)) ⟨loc, os⟩ b ⟨loc, os⟩ := be (oM hc h hl) (af hn) hcmp
noncomputable def eH : List (Nat × Nat) → List Nat → Bool
  | [], _ => true
  | _ :: _, [] => false
  | (a, b) :: r, c :: s => a8 c [a, b] && eH r s
noncomputable def Exp (O : Nat → Prop) (os : List AO) (cs j : Nat) (L : List AV) : Nat → List (Nat × Nat) → Prop
  | i, [] => L.length = i
  | i, (a, b) :: r => (∃ x, L[i]? = some (.obj x) ∧ os[x]? = some (.tup [.str [a], .str [b]]) ∧ ¬ O x ∧ x ≠ cs ∧ x ≠ j) ∧ Exp O os cs j L (i + 1) r
theorem Exp.keep {cs j : Nat} {L : List AV} {os' : List AO} (hk : ∀ x X, os[x]? = some X → ¬ O x → x ≠ cs → x ≠ j → os'[x]? = some X) : ∀ {es : List (Nat × Nat)} {i : Nat}, Exp O os cs j L i es → Exp O os' cs j L i es
  | [], _, h => h
  | (_, _) :: _, _, ⟨⟨x, h1, h2, h3, h4, h5⟩, hr⟩ => ⟨⟨x, h1, hk x _ h2 h3 h4 h5, h3, h4, h5⟩, hr.keep hk⟩
theorem mA {j cs u : Nat} {L : List AV} {os0 : List AO} {k : AF → St → Prop} : ∀ (es : List (Nat × Nat)) (i : Nat) (loc : List (Nat × AV)) (os : List AO) (T : Ts) (l : List Nat), Rd O os t T0 T cs l false → l.length + es.length < 20 →
    ag N.a loc = some (.obj t) → ag N.l loc = some (.obj cs) → ag N.S loc = some (.bool true) → os[j]? = some (.iter 2 (.obj u) i) → ¬ O j → os[u]? = some (.tup L) → ¬ O u → Exp O os cs j L i es → Kp (fun x => O x ∨ x = cs ∨ x = j) os0 os →
    (∀ loc' os' T', ag N.a loc' = some (.obj t) → ag N.l loc' = some (.obj cs) → ag N.S loc' = some (.bool true) → Kp (fun x => O x ∨ x = cs ∨ x = j) os0 os' → eH es T.S.rem = true → T'.S.rem = T.S.rem.drop es.length → (∃ l', Rd O os' t T0 T' cs l' false) → k .next ⟨loc', os'⟩) →
    (∀ loc' os' T' l' e, ag N.a loc' = some (.obj t) → ag N.l loc' = some (.obj cs) → ag N.S loc' = some (.bool false) → Kp (fun x => O x ∨ x = cs ∨ x = j) os0 os' → eH es T.S.rem = false → Rd O os' t T0 T' cs l' e → k .next ⟨loc', os'⟩) →
    dD tb j (aY N.X) _root_.Mine.T.mkB (es.length + 1) ⟨loc, os⟩ k
  | [], i, loc, os, T, l, h, hl, h1, h2, h3, hj, hjO, hu, huO, he, kp, hA, hB => by
    have hi : L.length = i := he
    have e1 : cg tb os 2 (.obj u) i = some none := by
      unfold cg
      simp only [bt, hu]
      rw [List.getElem?_eq_none (by lia)]
      subst hi; simp
    unfold dD
    simp only [hj, e1]
    have hjc : j ≠ cs := fun q => by rw [q, h.ls] at hj; cases hj
    refine hA loc _ T h1 h2 h3 (kp.trans (Kp.set (.inr (.inr rfl)))) rfl rfl ⟨l, { h with tv := h.tv.other (P := fun x => x = j) (Kp.set rfl) (fun x hx q => hjO (q ▸ hx)), ls := by show (os.set j gone)[cs]? = _; rw [aM hjc]; exact h.ls }⟩
  | (a, b) :: es, i, loc, os, T, l, h, hl, h1, h2, h3, hj, hjO, hu, huO, he, kp, hA, hB => by
    obtain ⟨⟨x, hx1, hx2, hx3, hx4, hx5⟩, he'⟩ := he
    have e1 : cg tb os 2 (.obj u) i = some (some (.obj x)) := by
      unfold cg
      simp only [bt, hu, hx1]
    show dD tb j (aY N.X) _root_.Mine.T.mkB ((es.length + 1) + 1) ⟨loc, os⟩ k
    unfold dD
    simp only [hj, e1, aY]
    have hjc : j ≠ cs := fun q => by rw [q, h.ls] at hj; cases hj
    have huj : u ≠ j := fun q => by rw [q, hj] at hu; cases hu
    have huc : u ≠ cs := fun q => by rw [q, h.ls] at hu; cases hu
    have hjl := ax hj
    have h' : Rd O (os.set j (.iter 2 (.obj u) (i + 1))) t T0 T cs l false := { h with tv := h.tv.other (P := fun x => x = j) (Kp.set rfl) (fun x hx q => hjO (q ▸ hx)), ls := by rw [aM hjc]; exact h.ls }
    have l1 : ag N.a (put N.X (.obj x) loc) = some (.obj t) := lq rfl h1
    have l2 : ag N.l (put N.X (.obj x) loc) = some (.obj cs) := lq rfl h2
    have l3 : ag N.S (put N.X (.obj x) loc) = some (.bool true) := lq rfl h3
    have l4 : ag N.X (put N.X (.obj x) loc) = some (.obj x) := am _ _ _
    have hj2 : (os.set j (.iter 2 (.obj u) (i + 1)))[j]? = some (.iter 2 (.obj u) (i + 1)) := aQ hjl
    have hu2 : (os.set j (.iter 2 (.obj u) (i + 1)))[u]? = some (.tup L) := by rw [aM (fun q => huj q.symm)]; exact hu
    have hx2' : (os.set j (.iter 2 (.obj u) (i + 1)))[x]? = some (.tup [.str [a], .str [b]]) := by rw [aM (fun q => hx5 q.symm)]; exact hx2
    have he2 : Exp O (os.set j (.iter 2 (.obj u) (i + 1))) cs j L (i + 1) es := he'.keep fun y Y hy _ _ hyj => by rw [aM (fun q => hyj q.symm)]; exact hy
    have kp2 : Kp (fun x => O x ∨ x = cs ∨ x = j) os0 (os.set j (.iter 2 (.obj u) (i + 1))) := kp.trans (Kp.set (.inr (.inr rfl)))
    generalize os.set j (.iter 2 (.obj u) (i + 1)) = o2 at *
    generalize put N.X (.obj x) loc = loc2 at *
    have keep : ∀ {os'' : List AO}, Kp (fun y => O y ∨ y = cs) o2 os'' → (os''[j]? = some (.iter 2 (.obj u) (i + 1)) ∧ os''[u]? = some (.tup L) ∧ os''[x]? = some (.tup [.str [a], .str [b]]) ∧ Exp O os'' cs j L (i + 1) es ∧ Kp (fun x => O x ∨ x = cs ∨ x = j) os0 os'') := by
      intro os'' g
      refine ⟨g.at hj2 (fun q => q.elim hjO hjc), g.at hu2 (fun q => q.elim huO huc), g.at hx2' (fun q => q.elim hx3 hx4), he2.keep fun y Y hy hyO hyc _ => g.at hy (fun q => q.elim hyO hyc), kp2.trans (g.sub fun y q => q.imp id .inl)⟩
    unfold _root_.Mine.T.mkB
    refine Rd.push h' l1 l2 (by simp at hl; lia) (fun hr os3 T3 g3 r3 => ?_) (fun c r hr os3 T3 g3 hr3 r3 => ?_)
    · obtain ⟨k1, k2, k3, k4, k5⟩ := keep g3
      have hls := r3.ls
      rw [← gX] at hls
      have hcmp : bz tb os3 .NotIn .none (.obj x) = some true := by
        have : inA tb os3 .none (.obj x) = some false := by unfold inA; simp only [bt, k3]; rfl
        show kf (inA tb os3 .none (.obj x)) = _
        rw [this]; rfl
      refine cz (oN l2 l4 hls (by have := fk l false; have := r3.len; lia) hcmp) ?_
      first | refine sq5 ?_ | refine sq4 ?_ | refine sq3 ?_ | refine sq2 ?_ | refine sq1 ?_ | refine ar ?_ | skip
      refine bJ ?_
      simp only [ad]
      refine hB _ os3 T3 l true (lq rfl l1) (lq rfl l2) (am _ _ _) k5 ?_ r3
      rw [hr]; rfl
    · obtain ⟨k1, k2, k3, k4, k5⟩ := keep g3
      have hls := r3.ls
      rw [← gm] at hls
      have hin := jm (l := [a, b]) k3 c
      have hcmp : bz tb os3 .NotIn (.str [c]) (.obj x) = some (!a8 c [a, b]) := by
        show kf (bz tb os3 .In (.str [c]) (.obj x)) = _
        rw [hin]; rfl
      cases hc : a8 c [a, b] with
      | true =>
        rw [hc] at hcmp
        refine bo (oN l2 l4 hls (by have := fk l false; have := h.len; lia) hcmp) ?_
        first | refine sq5 ?_ | refine sq4 ?_ | refine sq3 ?_ | refine sq2 ?_ | refine sq1 ?_ | refine ar ?_ | skip
        refine mA es (i + 1) loc2 os3 T3 (l ++ [c]) r3 (by simp at hl ⊢; lia) l1 l2 l3 k1 hjO k2 huO k4 k5 (fun loc' os' T' q1 q2 q3 q4 q5 q6 q7 => ?_) (fun loc' os' T' l' e q1 q2 q3 q4 q5 q6 => ?_)
        · refine hA loc' os' T' q1 q2 q3 q4 ?_ ?_ q7
          · rw [hr]; show (a8 c [a, b] && eH es r) = true; rw [hc, ← hr3, q5]; rfl
          · rw [hr]; rw [hr3] at q6; exact q6
        · refine hB loc' os' T' l' e q1 q2 q3 q4 ?_ q6
          rw [hr]; show (a8 c [a, b] && eH es r) = false; rw [hc, ← hr3, q5]; rfl
      | false =>
        rw [hc] at hcmp
        refine cz (oN l2 l4 hls (by have := fk l false; have := h.len; lia) hcmp) ?_
        first | refine sq5 ?_ | refine sq4 ?_ | refine sq3 ?_ | refine sq2 ?_ | refine sq1 ?_ | refine ar ?_ | skip
        refine bJ ?_
        simp only [ad]
        refine hB _ os3 T3 (l ++ [c]) false (lq rfl l1) (lq rfl l2) (am _ _ _) k5 ?_ r3
        rw [hr]; show (a8 c [a, b] && eH es r) = false; rw [hc]; rfl
noncomputable def dm : List (Nat × Nat) := [(111, 79), (99, 67), (116, 84), (121, 89), (112, 80), (101, 69)]
noncomputable def dO (rem : List Nat) (cur : Option Tok) : Res := match rem with
  | [] => ⟨true, [], cur, [.plain 7 eDd]⟩
  | c :: r => if c = 45 then (match r with
      | d :: s => if d = 45 then ⟨true, s, some (.plain 6 []), []⟩ else ⟨true, rem, cur, [.plain 7 eDd]⟩
      | [] => ⟨true, rem, cur, [.plain 7 eDd]⟩)
    else if a8 c [100, 68] = true then (if eH dm r = true then ⟨true, r.drop 6, some .doc, []⟩ else ⟨true, rem, cur, [.plain 7 eDd]⟩)
    else ⟨true, rem, cur, [.plain 7 eDd]⟩
theorem tsD : cQ tb [] (.glob (.ref 48)) (.str [68, 111, 99, 116, 121, 112, 101]) = some (.int 0) := rfl
noncomputable def eI : Nat → Nat → List AV
  | _, 0 => []
  | a, n + 1 => .obj a :: eI (a + 1) n
noncomputable def eR (p : Nat × Nat) : AO := .tup [.str [p.1], .str [p.2]]
theorem oO {loc : List (Nat × AV)} : ∀ (ps : List (Nat × Nat)) (o : List AO), Ev (aX (ps.map fun p => bq [ad (.str [p.1]), ad (.str [p.2])])) ⟨loc, o⟩ (eI o.length ps.length) ⟨loc, o ++ ps.map eR⟩ := by
  intro ps
  induction ps with
  | nil => intro o; show Ev (aX []) ⟨loc, o⟩ [] ⟨loc, o ++ []⟩; rw [List.append_nil]; exact dz
  | cons p r ih =>
    intro o
    have h := ih (o ++ [eR p])
    rw [List.length_append, List.append_assoc] at h
    exact bI (dW (bI aA (bi aA)) rfl) h
theorem Exp.of {cs j : Nat} {L : List AV} {o2 : List AO} (hO : ∀ x, o2.length ≤ x → ¬ O x) (hc : cs < o2.length) : ∀ (es ps : List (Nat × Nat)) (i : Nat) (r : List AO), ps.length = i → L = eI o2.length i ++ eI (o2.length + i) es.length → o2.length + i + es.length ≤ j → Exp O (o2 ++ (ps ++ es).map eR ++ r) cs j L i es := by
  have hr : ∀ n a, (eI a n).length = n := fun n => by
    induction n with
    | zero => intro a; rfl
    | succ n ih => intro a; exact congrArg (· + 1) (ih _)
  have hs : ∀ n a, eI a n ++ [.obj (a + n)] = eI a (n + 1) := fun n => by
    induction n with
    | zero => intro a; rfl
    | succ n ih => intro a; have h := ih (a + 1); rw [Nat.add_assoc, Nat.add_comm 1 n] at h; exact congrArg (AV.obj a :: ·) h
  intro es
  induction es with
  | nil => intro ps i r hp hL _; show L.length = i; rw [hL, List.length_append, hr, hr]; rfl
  | cons p es ih =>
    intro ps i r hp hL hj
    have hL' : L = eI o2.length i ++ .obj (o2.length + i) :: eI (o2.length + i + 1) es.length := hL
    refine ⟨⟨o2.length + i, ?_, ?_, hO _ (Nat.le_add_right _ _), Nat.ne_of_gt (Nat.lt_of_lt_of_le hc (Nat.le_add_right _ _)), ?_⟩, ?_⟩
    · rw [hL', List.getElem?_append_right (Nat.le_of_eq (hr _ _)), hr, Nat.sub_self]; rfl
    · rw [List.append_assoc, List.getElem?_append_right (Nat.le_add_right _ _), Nat.add_sub_cancel_left, List.map_append, List.append_assoc, List.getElem?_append_right (by rw [List.length_map, hp]; exact Nat.le_refl _), List.length_map, hp, Nat.sub_self]; rfl
    · rw [List.length_cons] at hj; lia
    · have h := ih (ps ++ [p]) (i + 1) r (by rw [List.length_append, hp]; rfl) (by rw [← hs, List.append_assoc]; exact hL') (by rw [List.length_cons] at hj; lia)
      rw [List.append_assoc ps [p] es] at h
      exact h
theorem nj : lC F.markupDeclarationOpenState dO fun T => T.q = [] ∧ T.sep = true := by
  rintro O os t T k h ⟨hq0, hsep⟩ hq hk
  refine bW (loc := [(N.a, .obj t)]) rfl ?_
  rw [rU]
  unfold _root_.Mine.T.mk0
  refine bJ ?_
  have b1 : ∀ a : AV, Nat.ble [a].length 1000 = true := fun _ => rfl
  have ecs : ∀ v, put N.l v [(N.a, AV.obj t)] = [(N.a, .obj t), (N.l, v)] := fun v => by simp (disch := decide) only [ba, bx]
  have ls : ∀ v, ag N.a [(N.a, AV.obj t), (N.l, v)] = some (.obj t) := fun v => aE _ _ _
  have lc : ∀ v, ag N.l [(N.a, AV.obj t), (N.l, v)] = some v := fun v => rfl
  simp only [cx, aX]
  refine dr h (aE _ _ _) (fun hr os1 g1 h1 => ?_) (fun c r hr os1 g1 h1 => ?_)
  · simp only [b1, cond_true, ecs]
    rw [hr] at hk
    have hn1 : ¬ O os1.length := fun q => Nat.lt_irrefl _ (h1.bnd _ q)
    have gl := g1.kp.1
    have rd : Rd O (os1 ++ [.list [.none]]) t T { T with S := { T.S with one := false } } os1.length [] true := ⟨h1.app _, bf rfl, hn1, rfl, ⟨[], rfl, rfl⟩, fun _ => hr, rfl, rfl, rfl, by simp⟩
    have hls : (os1 ++ [AO.list [.none]])[os1.length]? = some (.list ([] ++ [.none])) := bf rfl
    refine bo (nh (lc _) hls (by simp) (b := false) rfl) ?_
    first | refine sq5 ?_ | refine sq4 ?_ | refine sq3 ?_ | refine sq2 ?_ | refine sq1 ?_ | refine ar ?_ | skip
    have b2 : ∀ a b : AV, Nat.ble [a, b].length 1000 = true := fun _ _ => rfl
    have cond : ∀ K : Bool → St → Prop, K false ⟨[(N.a, .obj t), (N.l, .obj os1.length)], os1 ++ [AO.list [.none]] ++ [.tup [.str [100], .str [68]]]⟩ → aq tb .In (aU tb (aa N.l) (dE (ad (.int 1)))) (bq [(ad (.str [100])), (ad (.str [68]))]) ⟨[(N.a, .obj t), (N.l, .obj os1.length)], os1 ++ [AO.list [.none]]⟩ K := by
      intro K hK
      have e3 : bz tb (os1 ++ [AO.list [.none]] ++ [.tup [.str [100], .str [68]]]) .In .none (.obj (os1 ++ [AO.list [.none]]).length) = some false := by
        show inA tb _ .none (.obj _) = _
        unfold inA; simp only [bt, bf]; rfl
      simp only [aq, aU, aa, lc, dE, ad, iK hls (by simp), bq, aX, b2, cond_true, e3]; exact hK
    refine mz cond ?_
    first | refine sq5 ?_ | refine sq4 ?_ | refine sq3 ?_ | refine sq2 ?_ | refine sq1 ?_ | refine ar ?_ | skip
    have rd2 : Rd O (os1 ++ [AO.list [.none]] ++ [.tup [.str [100], .str [68]]]) t T { T with S := { T.S with one := false } } os1.length [] true := { rd with tv := rd.tv.app _, ls := aT rd.ls }
    exact eZ rd2 (ls _) (lc _) hq ((g1.kp.trans (Kp.app _ _ _)).trans (Kp.app _ _ _)) gl fun O' os' T' g q1 q2 q3 q4 => hk O' os' T' g q1 (q2.trans hr) q3 q4
  · simp only [b1, cond_true, ecs]
    rw [hr] at hk
    have hn1 : ¬ O os1.length := fun q => Nat.lt_irrefl _ (h1.bnd _ q)
    have gl := g1.kp.1
    have rd : Rd O (os1 ++ [.list [.str [c]]]) t T { T with S := ⟨adv T.S.pos c, r, (c, T.S.pos) :: T.S.H, true⟩ } os1.length [c] false := ⟨h1.app _, bf rfl, hn1, hr, ⟨[(c, T.S.pos)], rfl, rfl⟩, fun q => Bool.noConfusion q, rfl, rfl, rfl, by simp⟩
    have hls : (os1 ++ [AO.list [.str [c]]])[os1.length]? = some (.list ([] ++ [.str [c]])) := bf rfl
    have kp1 : Kp O os (os1 ++ [AO.list [.str [c]]]) := g1.kp.trans (Kp.app _ _ _)
    by_cases c1 : c = 45
    · subst c1
      refine cz (nh (lc _) hls (by simp) (b := true) rfl) ?_
      first | refine sq5 ?_ | refine sq4 ?_ | refine sq3 ?_ | refine sq2 ?_ | refine sq1 ?_ | refine ar ?_ | skip
      refine aF fun K hK => Rd.push rd (ls _) (lc _) (by simp) (fun hr2 os3 T3 g3 r3 => hK _ ?_) (fun d s hr2 os3 T3 g3 hr3 r3 => hK _ ?_)
      · have hls3 := r3.ls
        rw [← gX] at hls3
        refine bo (nh (lc _) hls3 (by simp [stk]) (b := false) rfl) ?_
        first | refine sq5 ?_ | refine sq4 ?_ | refine sq3 ?_ | refine sq2 ?_ | refine sq1 ?_ | refine ar ?_ | skip
        have hr2' : r = [] := hr2
        have g3' : Kp O os os3 := ⟨Nat.le_trans kp1.1 g3.1, fun j hj hn => (g3.2 j (Nat.lt_of_lt_of_le hj kp1.1) (fun q => q.elim hn (fun q => by lia))).trans (kp1.2 j hj hn)⟩
        refine eZ r3 (ls _) (lc _) hq g3' gl fun O' os' T' g q1 q2 q3 q4 => ?_
        rw [hr2'] at hk
        exact hk O' os' T' g q1 (by rw [q2, hr, hr2']; rfl) q3 q4
      · have hls3 := r3.ls
        rw [← gm] at hls3
        have hr2' : r = d :: s := hr2
        have g3' : Kp O os os3 := ⟨Nat.le_trans kp1.1 g3.1, fun j hj hn => (g3.2 j (Nat.lt_of_lt_of_le hj kp1.1) (fun q => q.elim hn (fun q => by lia))).trans (kp1.2 j hj hn)⟩
        by_cases d1 : d = 45
        · subst d1
          refine cz (nh (lc _) hls3 (by simp [stk]) (b := true) rfl) ?_
          first | refine sq5 ?_ | refine sq4 ?_ | refine sq3 ?_ | refine sq2 ?_ | refine sq1 ?_ | refine ar ?_ | skip
          have eD : ∀ K2 : AV → St → Prop, K2 (.obj os3.length) ⟨[(N.a, .obj t), (N.l, .obj os1.length)], os3 ++ [.dict [(N.h, .int 6), (N.b, .str [])]]⟩ → bh [N.h, N.b] [aU tb (ad (.glob (.ref 48))) (ad (.str [67, 111, 109, 109, 101, 110, 116])), ad (.str [])] ⟨[(N.a, .obj t), (N.l, .obj os1.length)], os3⟩ K2 := by
            intro K2 hK2
            have e1 : (os3 ++ [AO.dict []])[os3.length]? = some (.dict []) := bf rfl
            have f2 : (eO [N.h, N.b] [.int 6, .str []] [] && Nat.beq [N.h, N.b].length [AV.int 6, .str []].length) = true := rfl
            have e3 : ∀ X, (os3 ++ [AO.dict []]).set os3.length X = os3 ++ [X] := fun X => fN rfl
            simp (disch := decide) only [bh, aX, aU, ad, jj, tsM, e1, f2, cond_true, dA, bx, ba, e3]
            exact hK2
          refine aF fun K hK => d9 (tk := .plain 6 []) (r := [.dict [(N.h, .int 6), (N.b, .str [])]]) (b := true) r3.tv (ls _) eD ⟨os3.length, _, rfl, bf rfl, ⟨Nat.le_refl _, by simp⟩, rfl, rfl, rfl, by decide, by decide, by decide⟩ (fun _ k hk' => by rw [r3.q, hq0] at hk'; cases hk') fun O4 os4 g4 h4 => hK _ ?_
          refine aF fun K hK => aG h4 (ls _) mm8 (fun _ _ _ _ _ => rfl) fun O5 os5 g5 h5 => hK _ ?_
          rw [hr2'] at hk
          refine bL (hk O5 os5 _ (((Grow.of g3').trans g4).trans g5) h5 ?_ ?_ ?_)
          · exact hr3
          · rfl
          · show T3.q = _; rw [r3.q]; simp [dO]
        · refine bo (nh (lc _) hls3 (by simp [stk]) (b := false) (congrArg some (decide_eq_false fun q => d1 (List.cons.inj q).1))) ?_
          first | refine sq5 ?_ | refine sq4 ?_ | refine sq3 ?_ | refine sq2 ?_ | refine sq1 ?_ | refine ar ?_ | skip
          refine eZ r3 (ls _) (lc _) hq g3' gl fun O' os' T' g q1 q2 q3 q4 => ?_
          rw [hr2'] at hk
          have hD : dO (45 :: d :: s) T.cur = ⟨true, 45 :: d :: s, T.cur, [.plain 7 eDd]⟩ := by simp [dO, d1]
          rw [hD] at hk
          exact hk O' os' T' g q1 (by rw [q2, hr, hr2']) q3 q4
    · refine bo (nh (lc _) hls (by simp) (b := false) (congrArg some (decide_eq_false fun q => c1 (List.cons.inj q).1))) ?_
      first | refine sq5 ?_ | refine sq4 ?_ | refine sq3 ?_ | refine sq2 ?_ | refine sq1 ?_ | refine ar ?_ | skip
      have b2 : ∀ a b : AV, Nat.ble [a, b].length 1000 = true := fun _ _ => rfl
      have hin := jm (l := [100, 68]) (os := os1 ++ [AO.list [.str [c]]] ++ [.tup [.str [100], .str [68]]]) (i := (os1 ++ [AO.list [.str [c]]]).length) (bf rfl) c
      have cond : ∀ K : Bool → St → Prop, K (a8 c [100, 68]) ⟨[(N.a, .obj t), (N.l, .obj os1.length)], os1 ++ [AO.list [.str [c]]] ++ [.tup [.str [100], .str [68]]]⟩ → aq tb .In (aU tb (aa N.l) (dE (ad (.int 1)))) (bq [(ad (.str [100])), (ad (.str [68]))]) ⟨[(N.a, .obj t), (N.l, .obj os1.length)], os1 ++ [AO.list [.str [c]]]⟩ K := by
        intro K hK
        simp only [aq, aU, aa, lc, dE, ad, iK hls (by simp), bq, aX, b2, cond_true, hin]; exact hK
      have rd2 : Rd O (os1 ++ [AO.list [.str [c]]] ++ [.tup [.str [100], .str [68]]]) t T { T with S := ⟨adv T.S.pos c, r, (c, T.S.pos) :: T.S.H, true⟩ } os1.length [c] false := { rd with tv := rd.tv.app _, ls := aT rd.ls }
      have kp2 := kp1.trans (Kp.app O (os1 ++ [AO.list [.str [c]]]) [.tup [.str [100], .str [68]]])
      cases c2 : a8 c [100, 68] with
      | false =>
        rw [c2] at cond
        refine mz cond ?_
        first | refine sq5 ?_ | refine sq4 ?_ | refine sq3 ?_ | refine sq2 ?_ | refine sq1 ?_ | refine ar ?_ | skip
        refine eZ rd2 (ls _) (lc _) hq kp2 gl fun O' os' T' g q1 q2 q3 q4 => ?_
        have hD : dO (c :: r) T.cur = ⟨true, c :: r, T.cur, [.plain 7 eDd]⟩ := by simp [dO, c1, c2]
        rw [hD] at hk
        exact hk O' os' T' g q1 (by rw [q2, hr]) q3 q4
      | true =>
        rw [c2] at cond
        refine qy cond ?_
        first | refine sq5 ?_ | refine sq4 ?_ | refine sq3 ?_ | refine sq2 ?_ | refine sq1 ?_ | refine ar ?_ | skip
        refine bJ ?_
        have em : ∀ v w, put N.S v [(N.a, AV.obj t), (N.l, w)] = [(N.a, .obj t), (N.l, w), (N.S, v)] := fun v w => by simp (disch := decide) only [ba, bx]
        simp only [ad, em]
        have hl1 : (os1 ++ [AO.list [.str [c]]] ++ [AO.tup [.str [100], .str [68]]]).length = os1.length + 2 := by simp
        generalize ho2 : os1 ++ [AO.list [.str [c]]] ++ [AO.tup [.str [100], .str [68]]] = o2 at *
        have hcs := rd2.ls
        refine aF fun K hK => ?_
        have hev := dW (oO (loc := [(N.a, .obj t), (N.l, .obj os1.length), (N.S, .bool true)]) dm o2) rfl
        have hl6 : (o2 ++ dm.map eR).length = o2.length + 6 := List.length_append
        have hbnd := rd2.tv.bnd
        have nO : ∀ q, o2.length ≤ q → ¬ O q := fun q hq' hO => Nat.not_lt.mpr hq' (hbnd q hO)
        have hcl := ax hcs
        have hexp := fun r => Exp.of (O := O) (j := o2.length + 7) nO hcl dm [] 0 r rfl rfl (by show o2.length + 0 + 6 ≤ _; lia)
        have hu : (o2 ++ dm.map eR ++ [.tup (eI o2.length dm.length)])[o2.length + 6]? = some (.tup (eI o2.length dm.length)) := bf hl6.symm
        have hlen7 : (o2 ++ dm.map eR ++ [AO.tup (eI o2.length dm.length)]).length = o2.length + 7 := by rw [List.length_append, hl6]; rfl
        have hexp2 : Exp O (o2 ++ dm.map eR ++ [.tup (eI o2.length dm.length)]) os1.length (o2.length + 7) (eI o2.length dm.length) 0 dm := hexp _
        have rd3 : Rd O (o2 ++ dm.map eR ++ [.tup (eI o2.length dm.length)]) t T { T with S := ⟨adv T.S.pos c, r, (c, T.S.pos) :: T.S.H, true⟩ } os1.length [c] false := { rd2 with tv := (rd2.tv.app _).app _, ls := aT (aT rd2.ls) }
        have kp3 := (kp2.trans (Kp.app O o2 (dm.map eR))).trans (Kp.app O _ [.tup (eI o2.length dm.length)])
        refine hev _ ?_
        rw [show (o2 ++ dm.map eR).length = o2.length + 6 from hl6]
        show match eP tb (o2 ++ dm.map eR ++ [.tup (eI o2.length dm.length)]) (.obj (o2.length + 6)) with | some tp => _ | none => False
        generalize o2 ++ dm.map eR ++ [AO.tup (eI o2.length dm.length)] = o3 at hu hlen7 hexp2 rd3 kp3 ⊢
        have hki : eP tb o3 (.obj (o2.length + 6)) = some 2 := by
          show (match bt tb o3 (.obj (o2.length + 6)) with | some (false, _) => some 1 | some (true, _) => some 2 | none => none) = _
          rw [cF hu]
        rw [hki]
        refine ⟨dm.length + 1, ?_⟩
        dsimp only
        rw [hlen7]
        have kpg : ∀ os', Kp (fun x => O x ∨ x = os1.length ∨ x = o2.length + 7) o3 os' → Kp O os os' := fun os' q => ⟨Nat.le_trans kp3.1 q.1, fun j hj hn => (q.2 j (Nat.lt_of_lt_of_le hj kp3.1) (fun z => by rcases z with z | z | z; exact hn z; lia; lia)).trans (kp3.2 j hj hn)⟩
        refine mA (cs := os1.length) (u := o2.length + 6) (L := eI o2.length dm.length) (os0 := o3) dm 0 [(N.a, .obj t), (N.l, .obj os1.length), (N.S, .bool true)] (o3 ++ [.iter 2 (.obj (o2.length + 6)) 0]) _ [c] { rd3 with tv := rd3.tv.app _, ls := aT rd3.ls } (by show 1 + 6 < 20; decide) (aE _ _ _) (rfl) (rfl) (bf hlen7.symm) (nO _ (by lia)) (aT hu) (nO _ (by lia)) (hexp2.keep fun y Y hy _ _ _ => aT hy) (Kp.app _ _ _) (fun loc' os' T' q1 q2 q3 q4 q5 q6 q7 => hK _ ?_) (fun loc' os' T' l' e q1 q2 q3 q4 q5 q6 => hK _ ?_)
        · refine cz (fun K hK => by simp only [bY, aa, q3, eS]; exact hK) ?_
          first | refine sq5 ?_ | refine sq4 ?_ | refine sq3 ?_ | refine sq2 ?_ | refine sq1 ?_ | refine ar ?_ | skip
          obtain ⟨l', rd4⟩ := q7
          have eD : ∀ K2 : AV → St → Prop, K2 (.obj os'.length) ⟨loc', os' ++ [.dict mv]⟩ → bh [N.h, N.k, N.aB, N.aE, N.av] [aU tb (ad (.glob (.ref 48))) (ad (.str [68, 111, 99, 116, 121, 112, 101])), ad (.str []), ad .none, ad .none, ad (.bool true)] ⟨loc', os'⟩ K2 := by
            intro K2 hK2
            have e1 : (os' ++ [AO.dict []])[os'.length]? = some (.dict []) := bf rfl
            have f2 : (eO [N.h, N.k, N.aB, N.aE, N.av] [.int 0, .str [], .none, .none, .bool true] [] && Nat.beq [N.h, N.k, N.aB, N.aE, N.av].length [AV.int 0, .str [], .none, .none, .bool true].length) = true := rfl
            have e3 : ∀ X, (os' ++ [AO.dict []]).set os'.length X = os' ++ [X] := fun X => fN rfl
            simp (disch := decide) only [bh, aX, aU, ad, jj, tsD, e1, f2, cond_true, dA, bx, ba, e3]
            exact hK2
          refine aF fun K hK => d9 (tk := .doc) (r := [.dict mv]) (b := true) rd4.tv q1 eD ⟨os'.length, rfl, bf rfl, ⟨Nat.le_refl _, by simp⟩⟩ (fun _ k hk' => by rw [rd4.q, hq0] at hk'; cases hk') fun O4 os4 g4 h4 => hK _ ?_
          refine aF fun K hK => aG h4 q1 mm9 (fun _ _ _ _ _ => rfl) fun O5 os5 g5 h5 => hK _ ?_
          have q5' : eH dm r = true := q5
          have hD : dO (c :: r) T.cur = ⟨true, r.drop 6, some .doc, []⟩ := by simp [dO, c1, c2, q5']
          rw [hD] at hk
          refine bL (hk O5 os5 _ (((Grow.of (kpg _ q4)).trans g4).trans g5) h5 q6 rfl ?_)
          show T'.q = _; rw [rd4.q]; simp
        · refine bo (fun K hK => by simp only [bY, aa, q3, eS]; exact hK) ?_
          first | refine sq5 ?_ | refine sq4 ?_ | refine sq3 ?_ | refine sq2 ?_ | refine sq1 ?_ | refine ar ?_ | skip
          refine eZ q6 q1 q2 hq (kpg _ q4) gl fun O' os' T' g w1 w2 w3 w4 => ?_
          have q5' : eH dm r = false := q5
          have hD : dO (c :: r) T.cur = ⟨true, c :: r, T.cur, [.plain 7 eDd]⟩ := by simp [dO, c1, c2, q5']
          rw [hD] at hk
          exact hk O' os' T' g w1 (by rw [w2, hr]) w3 w4
end
noncomputable def Smp : AV → Prop
  | .none => True
  | .str _ => True
  | .int _ => True
  | .bool _ => True
  | _ => False
theorem gY {os : List AO} (n : Nat) {a : AV} (h : Smp a) : deq tb os n a a = some true := by
  cases n with
  | zero =>
    cases a with
    | none => rfl
    | str x => exact congrArg some (decide_eq_true rfl)
    | int x => exact congrArg some (decide_eq_true rfl)
    | bool x => exact congrArg some (decide_eq_true rfl)
    | obj i => exact h.elim
    | glob v => exact h.elim
  | succ n =>
    cases a with
    | none => rfl
    | str x => exact congrArg some (decide_eq_true rfl)
    | int x => exact congrArg some (decide_eq_true rfl)
    | bool x => exact congrArg some (decide_eq_true rfl)
    | obj i => exact h.elim
    | glob v => exact h.elim
theorem kS {os : List AO} {n : Nat} : ∀ {l : List AV}, (∀ a ∈ l, Smp a) → dQ (deq tb os n) l l = some true
  | [], _ => rfl
  | a :: r, h => by
    have h1 := gY (os := os) n (h a (.head _))
    have h2 := kS (os := os) (n := n) (l := r) fun x hx => h x (.tail _ hx)
    unfold dQ
    rw [h1, h2]; rfl
theorem gn {os : List AO} {n : Nat} {a b : AV} {l : List AV} (ha : bt tb os a = some (true, l)) (hb : bt tb os b = some (true, l)) (hl : ∀ x ∈ l, Smp x) : deq tb os (n + 1) a b = some true := by
  show li tb os (deq tb os n) a b = _
  unfold li
  rw [ha]; dsimp only; rw [hb]
  show (match dQ (deq tb os n) l l with | some x => some (x && Nat.beq l.length l.length) | none => none) = _
  rw [kS hl, Nat.beq_refl]; rfl
noncomputable def Tell (os : List AO) : List AV → List Tok → Prop
  | [], [] => True
  | a :: r, k :: q => bt tb os a = some (true, bX k) ∧ Tell os r q
  | _, _ => False
theorem Told.tell {os : List AO} : ∀ {l : List AV} {q : List Tok}, Told os l q → Tell os l q
  | [], [], _ => trivial
  | _ :: _, _ :: _, ⟨⟨i, e, h⟩, r⟩ => ⟨by subst e; exact cF h, r.tell⟩
  | [], _ :: _, h => h.elim
  | _ :: _, [], h => h.elim
theorem gp (k : Tok) : ∀ x ∈ bX k, Smp x := by
  intro x hx
  cases k <;> simp only [bX, List.mem_cons, List.not_mem_nil, or_false] at hx
  · rcases hx with rfl | rfl | rfl | rfl | rfl <;> exact trivial
  · rcases hx with rfl | rfl <;> exact trivial
  · rcases hx with rfl | rfl | rfl | rfl | rfl <;> exact trivial
theorem jn {os : List AO} {n : Nat} : ∀ {l l' : List AV} {q : List Tok}, Tell os l q → Tell os l' q → dQ (deq tb os (n + 1)) l l' = some true ∧ l.length = l'.length
  | [], [], [], _, _ => ⟨rfl, rfl⟩
  | a :: r, b :: s, k :: q, ⟨h1, h2⟩, ⟨h3, h4⟩ => by
    obtain ⟨i1, i2⟩ := jn (n := n) h2 h4
    refine ⟨?_, by rw [List.length_cons, List.length_cons, i2]⟩
    unfold dQ
    rw [gn h1 h3 (gp k), i1]; rfl
  | [], _ :: _, [], _, h => h.elim
  | _ :: _, _, [], h, _ => h.elim
  | [], _, _ :: _, h, _ => h.elim
  | _ :: _, [], _ :: _, _, h => h.elim
theorem jo {os : List AO} {n : Nat} {a b : AV} {l l' : List AV} {q : List Tok} (ha : bt tb os a = some (false, l)) (hb : bt tb os b = some (false, l')) (h : Tell os l q) (h' : Tell os l' q) : deq tb os (n + 2) a b = some true := by
  obtain ⟨h1, h2⟩ := jn (n := n) h h'
  show li tb os (deq tb os (n + 1)) a b = _
  unfold li
  rw [ha]; dsimp only; rw [hb]
  show (bif Nat.beq l.length l'.length then dQ (deq tb os (n + 1)) l l' else some false) = _
  rw [h2, Nat.beq_refl, h1]; rfl
theorem lF {os : List AO} {a b : AV} (h : deq tb os 4 a b = some true) : bz tb os .NotEq a b = some false := by
  show kf (deq tb os 4 a b) = _
  rw [h]; rfl
section
variable {O Os : Nat → Prop} {os : List AO} {t x : Nat} {T : Ts} {l4 m : Nat} {Q : List AV} {loc : List (Nat × AV)}
theorem eJ {tk : Tok} {k : AV → St → Prop} (h : TV O os t T) (hx : ag x loc = some (.obj t)) (hc : T.cur = some tk) (hk : k (.obj os.length) ⟨loc, os ++ [.tup (bX tk)]⟩) : aW F.ulaw_token [ak N.m (aa x)] ⟨loc, os⟩ k := by
  obtain ⟨Os, l4, m, Q, h⟩ := h
  have ht := h.cur
  rw [hc] at ht
  have ht' : TokAt (Bq O Os T.qi) os T.ca tk := ht
  have hh : cu T.ca = true := by
    cases tk with
    | plain kd d => obtain ⟨i, fs, e, _⟩ := ht'; rw [e]; rfl
    | doc => obtain ⟨i, e, _⟩ := ht'; rw [e]; rfl
    | tag kd nm n sc d => obtain ⟨i, dl, ack, e, _⟩ := ht'; rw [e]; rfl
  simp (disch := decide) only [aW, aX, ak, aa, hx, dp h.inst t3, aE, aZ, hh, cond_true]
  exact iI ht' hk
theorem j7 {k : AV → St → Prop} (h : TV O os t T) (hx : ag x loc = some (.obj t)) (hk : k T.ca ⟨loc, os⟩) : ak N.m (aa x) ⟨loc, os⟩ k := by
  obtain ⟨Os, l4, m, Q, h⟩ := h
  have ht := h.cur
  have hh : cu T.ca = true := by
    cases hc : T.cur with
    | none => rw [hc] at ht; have ht : T.ca = .none := ht; rw [ht]; rfl
    | some tk =>
      rw [hc] at ht
      have ht' : TokAt (Bq O Os T.qi) os T.ca tk := ht
      cases tk with
      | plain kd d => obtain ⟨i, fs, e, _⟩ := ht'; rw [e]; rfl
      | doc => obtain ⟨i, e, _⟩ := ht'; rw [e]; rfl
      | tag kd nm n sc d => obtain ⟨i, dl, ack, e, _⟩ := ht'; rw [e]; rfl
  simp (disch := decide) only [ak, aa, hx, dp h.inst t3, aE, aZ, hh, cond_true]
  exact hk
theorem oP (h : TV O os t T) : isA T.ca .none = some T.cur.isNone := by
  obtain ⟨Os, l4, m, Q, h⟩ := h
  have ht := h.cur
  cases hc : T.cur with
  | none => rw [hc] at ht; have ht : T.ca = .none := ht; rw [ht]; rfl
  | some tk =>
    rw [hc] at ht
    have ht' : TokAt (Bq O Os T.qi) os T.ca tk := ht
    cases tk with
    | plain kd d => obtain ⟨i, fs, e, _⟩ := ht'; rw [e]; rfl
    | doc => obtain ⟨i, e, _⟩ := ht'; rw [e]; rfl
    | tag kd nm n sc d => obtain ⟨i, dl, ack, e, _⟩ := ht'; rw [e]; rfl
theorem fO {k : AV → St → Prop} (h : TV O os t T) (hx : ag x loc = some (.obj t)) (hq : T.q.length ≤ 9000)
    (hk : ∀ os' D l, Kp (fun _ => False) os os' → os.length ≤ D → os'[D]? = some (.list l) → Told os' l T.q → k (.obj D) ⟨loc, os'⟩) : aW F.ulaw_queue [aa x] ⟨loc, os⟩ k := by
  simp only [aW, aX, aa, hx]
  exact lB h hq hk
theorem gZ {n g : Nat} {Tf : TF} {k : AV → St → Prop} (h : TV O os t T) (hx : ag x loc = some (.obj t)) (hm : cw 762 n cr = some g) (hn : ∀ a b c d e, ag n (Tfs a b c d e) = none) (hk : Tf [.obj t] os fun v os' => k v ⟨loc, os'⟩) : aI n g Tf (aa x) [] ⟨loc, os⟩ k := by
  obtain ⟨Os, l4, m, Q, h⟩ := h
  have hb : Nat.beq g g = true := by simp
  simp only [aI, aa, hx, dM h.inst (hn _ _ _ _ _) hm, aX, hb, cond_true]
  exact hk
theorem oQ {Tf : TF} {k : AV → St → Prop} (h : TV O os t T) (hx : ag x loc = some (.obj t)) (hF : FTs T.st = some Tf) (hk : Tf [.obj t] os fun v os' => k v ⟨loc, os'⟩) : iQ N.i FTs (aa x) [] ⟨loc, os⟩ k := by
  obtain ⟨Os, l4, m, Q, h⟩ := h
  exact oj (af hx) (mj h.inst t2 rfl rfl) h.meth hF dz h.meth hk
theorem re {k : AV → St → Prop} (h : TV O os t T) (hx : ag x loc = some (.obj t))
    (hk : ∀ os', Kp O os os' → TV O os' t T → os'[os.length + 1]? = some (.tup [.int (T.S.pos.1 + 1), .int T.S.pos.2]) → os'.length = os.length + 2 → k (.obj (os.length + 1)) ⟨loc, os'⟩) : aI N.a0 126 F.position (ak N.e (aa x)) [] ⟨loc, os⟩ k := by
  obtain ⟨Os, l4, m, Q, h⟩ := h
  refine dF h hx mc4 (fun _ _ _ _ _ _ _ _ _ _ => rfl) ?_
  simp only [aX]
  exact kM h.sv fun os' k1 sv hp hl => hk os' (k1.sub h.sub) ⟨Os, l4, m, Q, h.strm k1 sv⟩ hp hl
theorem mB {k : AV → St → Prop} (h : TV O os t T) (hx : ag x loc = some (.obj t)) (hk : ∀ os' T', Grow O os O os' → TV O os' t T' → k (.str T.S.rem) ⟨loc, os'⟩) : aI N.N 156 F.charsUntil (ak N.e (aa x)) [bq []] ⟨loc, os⟩ k := by
  have hn1 : ¬ O os.length := fun q => Nat.lt_irrefl _ (h.bnd _ q)
  have b : Nat.ble ([] : List AV).length 1000 = true := rfl
  have e : ∀ l : List Nat, (l.takeWhile fun c => decide (a8 c [] = false)) = l := fun l => by
    induction l with
    | nil => rfl
    | cons a r ih => rw [List.takeWhile_cons, ih]; rfl
  refine cU (r := [.tup []]) (avs := [.obj os.length]) (opp := false) (chars := .obj os.length) (P := fun c => a8 c []) h hx (.inl ⟨rfl, rfl⟩) (fun K3 hK3 => ?_) (fun os' hk' c => jm (l := []) (hk'.at (bf rfl) hn1) c) fun os' S' g hS h' => ?_
  · simp only [aX, bq, b, cond_true]; exact hK3
  · rw [e]; exact hk os' _ g h'
end
noncomputable def T.lw3 : TS :=
  (ae (aIf (aOr (aq tb .IsNot (aa N.x) (ad (.bool true))) (aOr (aq tb .NotEq (aW F.ulaw_queue [(aa N.c)]) (aa N.y)) (aOr (aq tb .NotEq (aI N.a0 126 F.position (ak N.e (aa N.c)) []) (aW F.ulaw_place [(aa N.o), (aa N.v)])) (aB false)))) (ae (ay (ad (.bool false)))
  aj) aj)
  (ae (aR N.q (hW 762 F.initHTMLTokenizer [(dG (aa N.o) (some (aa N.v)) none)]))
  (ae (ah N.g (cx []) (aa N.q))
  (ae (ah N.g (cx []) (aa N.c))
  (ae (aIf (aq tb .IsNot (aa N.t) (ad .none)) (ae (aIf (aq tb .NotEq (aW F.ulaw_token [(ak N.m (aa N.c))]) (aa N.t)) (ae (ay (ad (.bool false)))
  aj) aj)
  (ae (ah N.m (bh [N.h, N.k, N.b, N.K] [(aa N.n), (aU tb (aa N.t) (ad (.int 1))), (cx []), (ad (.bool false))]) (aa N.q))
  aj)) aj)
  (ae (aIf (aOr (aq tb .NotEq (iQ N.i FTs (aa N.c) []) (aW F.ulaw_call [(aa N.q), (aa N.p)])) (aOr (aq tb .NotEq (aW F.ulaw_queue [(aa N.c)]) (aW F.ulaw_queue [(aa N.q)])) (aB false))) (ae (ay (ad (.bool false)))
  aj) aj)
  (ae (aIf (aq tb .NotEq (dR tb .Is (ak N.m (aa N.c)) (ad .none)) (dR tb .Is (ak N.m (aa N.q)) (ad .none))) (ae (ay (ad (.bool false)))
  aj) aj)
  (ae (aIf (du (aq tb .NotEq (aa N.p) (ad (.str [100, 97, 116, 97]))) (du (aq tb .IsNot (ak N.m (aa N.q)) (ad .none)) (du (aq tb .NotEq (aW F.ulaw_token [(ak N.m (aa N.c))]) (aW F.ulaw_token [(ak N.m (aa N.q))])) (aB true)))) (ae (ay (ad (.bool false)))
  aj) aj)
  (ae (ay (dR tb .Eq (aI N.N 156 F.charsUntil (ak N.e (aa N.c)) [(bq [])]) (aI N.N 156 F.charsUntil (ak N.e (aa N.q)) [(bq [])])))
  aj)))))))))
structure Two (O P : Nat → Prop) (os : List AO) (t u : Nat) (T U : Ts) : Prop where
  a : TV O os t T
  b : TV P os u U
  d : ∀ j, O j → ¬ P j
section
variable {O P : Nat → Prop} {os : List AO} {t u : Nat} {T U : Ts} {loc : List (Nat × AV)}
theorem Two.left (h : Two O P os t u T U) {O' : Nat → Prop} {os' : List AO} {T' : Ts} (g : Grow O os O' os') (h' : TV O' os' t T') : Two O' P os' t u T' U :=
  ⟨h', h.b.other g.kp fun j hj q => h.d j q hj, fun j hj q => (g.new j hj).elim (fun r => h.d j r q) fun r => by have := h.b.bnd j q; lia⟩
theorem Two.right (h : Two O P os t u T U) {P' : Nat → Prop} {os' : List AO} {U' : Ts} (g : Grow P os P' os') (h' : TV P' os' u U') : Two O P' os' t u T U' :=
  ⟨h.a.other g.kp fun j hj q => h.d j hj q, h', fun j hj q => (g.new j q).elim (fun r => h.d j hj r) fun r => by have := h.a.bnd j hj; lia⟩
theorem Two.same (h : Two O P os t u T U) {os' : List AO} (g : Kp (fun _ => False) os os') : Two O P os' t u T U :=
  ⟨h.a.other g fun _ _ q => q, h.b.other g fun _ _ q => q, h.d⟩
theorem iL {a : AV} {r : Bool × List AV} {os' : List AO} (h : bt tb os a = some r) (g : Kp (fun _ => False) os os') : bt tb os' a = some r := by
  unfold bt at h ⊢
  split at h
  · rename_i i
    cases hi : os[i]? with
    | none => rw [hi] at h; cases h
    | some X =>
      rw [hi] at h
      rw [show os'[i]? = some X from g.at hi (fun q => q)]
      exact h
  · exact h
  · cases h
theorem Tell.keep {os' : List AO} (g : Kp (fun _ => False) os os') : ∀ {l : List AV} {q : List Tok}, Tell os l q → Tell os' l q
  | [], [], _ => trivial
  | _ :: _, _ :: _, ⟨h, r⟩ => ⟨iL h g, r.keep g⟩
  | [], _ :: _, h => h.elim
  | _ :: _, [], h => h.elim
theorem rV {g : Nat} {kd : Int} {nm : List Nat} {e2 : List AV} (hk : ag N.n loc = some (.int kd)) (hg : ag N.t loc = some (.obj g)) (ho : os[g]? = some (.tup (.int kd :: .str nm :: e2))) (h5 : e2.length ≤ 10) (K : AV → St → Prop) (hK : K (.obj os.length) ⟨loc, os ++ [.dict (cO kd nm (os.length + 1) false false), .list []]⟩) :
    bh [N.h, N.k, N.b, N.K] [(aa N.n), (aU tb (aa N.t) (ad (.int 1))), (cx []), (ad (.bool false))] ⟨loc, os⟩ K := by
  have e0 : Nat.ble ([] : List AV).length 1000 = true := rfl
  have el : (os ++ [AO.dict []]).length = os.length + 1 := by simp
  have e1 : (os ++ [AO.dict []] ++ [AO.list []])[os.length]? = some (.dict []) := aT (bf rfl)
  have f2 : (eO [N.h, N.k, N.b, N.K] [.int kd, .str nm, .obj (os.length + 1), .bool false] [] && Nat.beq [N.h, N.k, N.b, N.K].length [AV.int kd, .str nm, .obj (os.length + 1), .bool false].length) = true := rfl
  have es : cQ tb (os ++ [AO.dict []]) (.obj g) (.int 1) = some (.str nm) := mo (cF (aT ho)) (by simp only [List.length_cons]; lia) (ff (i := 1) (by simp only [List.length_cons]; lia)) rfl
  simp (disch := decide) only [bh, aX, aa, hk, aU, hg, ad, es, cx, e0, cond_true, el, e1, f2, dA, bx, ba, j4]
  exact hK
structure Fol (fo : List Nat) (st : Nat) (G : TF) (f : List Nat → Option Tok → Res) (pre : Ts → Prop) : Prop where
  ft : FTs st = some G
  deed : lC G f pre
  call : ∀ (P : Nat → Prop) (os : List AO) (u : Nat) (U : Ts) (k : AV → List AO → Prop), TV P os u U → G [.obj u] os k → F.ulaw_call [.obj u, .str fo] os k
theorem qB {n : Nat} {y z : List Nat} (hl : ag n loc = some (.str y)) : ∀ K : Bool → St → Prop, K (!decide (y = z)) ⟨loc, os⟩ → aq tb .NotEq (aa n) (ad (.str z)) ⟨loc, os⟩ K := fun K hK => be (st := ⟨loc, os⟩) (co := .NotEq) (a := .str y) (b := .str z) (af hl) aA rfl K hK
end
section
variable {O P : Nat → Prop} {os : List AO} {t u : Nat} {T U : Ts} {loc : List (Nat × AV)}
theorem iM {n : Nat} (hl : ag n loc = some (.bool true)) {K : Bool → St → Prop} (hK : K false ⟨loc, os⟩) : aq tb .IsNot (aa n) (ad (.bool true)) ⟨loc, os⟩ K := by
  simp only [aq, aa, hl, ad, bz, isA]; exact hK
theorem rW {M : List Nat} {us : Nat} {k : AF → St → Prop} {V : TS} (h : TV O os t T) (ht : ag N.c loc = some (.obj t)) (hm : ag N.o loc = some (.str M)) (hu : ag N.v loc = some (.int us)) (hus : us ≤ M.length) (hM : M.length ≤ 9000) (h13 : 13 ∉ M) (hsur : ∀ c ∈ M, c < 55296 ∨ 56319 < c)
    (hk : ∀ O' P os' u T' U, Two O' P os' t u T' U → Kp O os os' → T'.S = T.S → T'.st = T.st → T'.cur = T.cur → T'.q = [] → T'.sep = true → U.S.rem = M.drop us → U.cur = none → U.q = [] → U.sep = true → V ⟨put N.q (.obj u) loc, os'⟩ k) :
    ae (aR N.q (hW 762 F.initHTMLTokenizer [(dG (aa N.o) (some (aa N.v)) none)])) (ae (ah N.g (cx []) (aa N.q)) (ae (ah N.g (cx []) (aa N.c)) V)) ⟨loc, os⟩ k := by
  have b1 : Nat.ble M.length 1000000 = true := Nat.ble_eq_true_of_le (by lia)
  refine bJ ?_
  refine bi (eE (af hm) (cV (af hu)) fi (eF (u := some us) (v := none) b1)) _ ?_
  rw [rA]
  dsimp only
  have hd : (M.drop us).length ≤ 9000 := by rw [List.length_drop]; lia
  refine gi (bf rfl) hd (fun c hc => hsur c (List.mem_of_mem_drop hc)) fun Os os1 s l4 m fr => ?_
  have hl := fr.kp.1
  rw [List.length_append] at hl
  have hl' : os.length + 1 ≤ os1.length := hl
  have kp1 : Kp (fun j => j = os.length) os os1 := (Kp.app _ os _).trans fr.kp
  have h1 : TV O os1 t T := h.other kp1 fun j hj q => by have := h.bnd j hj; lia
  have lu : ag N.q (put N.q (.obj os.length) loc) = some (.obj os.length) := am _ _ _
  have lt : ag N.c (put N.q (.obj os.length) loc) = some (.obj t) := lq rfl ht
  generalize hl1 : put N.q (AV.obj os.length) loc = loc1 at *
  refine aF fun K hK => jk fr (by simp) (by simp) lu fun P os2 qi k2 hP hU => hK _ ?_
  have kp2 := kp1.trans k2
  have h2 : Two O P os2 t os.length T _ := ⟨h.other kp2 fun j hj q => by have := h.bnd j hj; lia, hU, fun j hj q => by have := h.bnd j hj; have := hP j q; lia⟩
  refine aF fun K hK => oI h2.a lt fun O3 os3 g3 h3 => hK _ ?_
  have kk : Kp O os os3 := ⟨Nat.le_trans kp2.1 g3.kp.1, fun j hj hn => (g3.kp.2 j (Nat.lt_of_lt_of_le hj kp2.1) hn).trans (kp2.2 j hj (by lia))⟩
  subst hl1
  refine hk O3 P os3 os.length _ _ (h2.left g3 h3) kk rfl rfl rfl rfl rfl ?_ rfl rfl rfl
  exact pX _ fun q => h13 (List.mem_of_mem_drop q)
theorem nk {fo : List Nat} {k : AV → St → Prop} (hu : ag N.q loc = some (.obj u)) (hf : ag N.p loc = some (.str fo)) (hk : F.ulaw_call [.obj u, .str fo] os fun v os' => k v ⟨loc, os'⟩) : aW F.ulaw_call [(aa N.q), (aa N.p)] ⟨loc, os⟩ k := by
  simp only [aW, aX, aa, hu, hf]; exact hk
theorem dn {op : CmpOp} {A B : TE} {st : St} {k : Bool → St → Prop} (h : A st fun a st1 => B st1 fun b st2 => match bz tb st2.objs op a b with
    | some r => k r st2
    | none => False) : aq tb op A B st k := h
theorem mC {op : CmpOp} {A B : TE} {st : St} {k : AV → St → Prop} (h : A st fun a st1 => B st1 fun b st2 => match bz tb st2.objs op a b with
    | some r => k (.bool r) st2
    | none => False) : dR tb op A B st k := h
theorem kT {A B : TB} {st : St} {k : Bool → St → Prop} (h : A st fun b st' => bif b then k true st' else B st' k) : aOr A B st k := h
theorem kU {A B : TB} {st : St} {k : Bool → St → Prop} (h : A st fun b st' => bif b then B st' k else k false st') : du A B st k := h
noncomputable def T.lw4 : TS :=
  (ae (aIf (aOr (aq tb .NotEq (iQ N.i FTs (aa N.c) []) (aW F.ulaw_call [(aa N.q), (aa N.p)])) (aOr (aq tb .NotEq (aW F.ulaw_queue [(aa N.c)]) (aW F.ulaw_queue [(aa N.q)])) (aB false))) (ae (ay (ad (.bool false)))
  aj) aj)
  (ae (aIf (aq tb .NotEq (dR tb .Is (ak N.m (aa N.c)) (ad .none)) (dR tb .Is (ak N.m (aa N.q)) (ad .none))) (ae (ay (ad (.bool false)))
  aj) aj)
  (ae (aIf (du (aq tb .NotEq (aa N.p) (ad (.str [100, 97, 116, 97]))) (du (aq tb .IsNot (ak N.m (aa N.q)) (ad .none)) (du (aq tb .NotEq (aW F.ulaw_token [(ak N.m (aa N.c))]) (aW F.ulaw_token [(ak N.m (aa N.q))])) (aB true)))) (ae (ay (ad (.bool false)))
  aj) aj)
  (ae (ay (dR tb .Eq (aI N.N 156 F.charsUntil (ak N.e (aa N.c)) [(bq [])]) (aI N.N 156 F.charsUntil (ak N.e (aa N.q)) [(bq [])])))
  aj))))
theorem oT {fo : List Nat} {G : TF} {f : List Nat → Option Tok → Res} {pre : Ts → Prop} (h : Two O P os t u T U) (ht : ag N.c loc = some (.obj t)) (hu : ag N.q loc = some (.obj u)) (hf : ag N.p loc = some (.str fo))
    (fol : Fol fo T.st G f pre) (p1 : pre T) (p2 : pre U) (q1 : T.q = []) (q2 : U.q = []) (hr : U.S.rem = T.S.rem)
    (r1 : (f T.S.rem U.cur).ret = (f T.S.rem T.cur).ret) (r2 : (f T.S.rem U.cur).rem = (f T.S.rem T.cur).rem) (r3 : (f T.S.rem U.cur).q = (f T.S.rem T.cur).q) (r4 : (f T.S.rem U.cur).cur.isNone = (f T.S.rem T.cur).cur.isNone)
    (r5 : fo ≠ [100, 97, 116, 97] → (f T.S.rem U.cur).cur = (f T.S.rem T.cur).cur) (r6 : (f T.S.rem T.cur).q.length ≤ 100) : _root_.Mine.T.lw4 ⟨loc, os⟩ (fun fl _ => fl = .ret (.bool true)) := by
  unfold _root_.Mine.T.lw4
  refine gI ?_
  refine kT (dn ?_)
  refine oQ h.a ht fol.ft ?_
  refine fol.deed O os t T _ h.a p1 (by rw [q1]; exact Nat.zero_le _) fun O1 os1 T1 g1 h1 a1 a2 a3 => ?_
  have w1 := h.left g1 h1
  refine nk hu hf (fol.call P os1 u U _ w1.b ?_)
  refine fol.deed P os1 u U _ w1.b p2 (by rw [q2]; exact Nat.zero_le _) fun P2 os2 U2 g2 h2 b1 b2 b3 => ?_
  have w2 := w1.right g2 h2
  rw [hr, r2, ← a1] at b1
  rw [hr] at b2
  rw [hr, r3, q2, ← q1, ← a3] at b3
  rw [hr, r1]
  have e0 : bz tb os2 .NotEq (.bool (f T.S.rem T.cur).ret) (.bool (f T.S.rem T.cur).ret) = some false := lF (gY _ trivial)
  simp only [e0, cond_false]
  refine kT (dn ?_)
  have hq1 : T1.q.length ≤ 9000 := by rw [a3, q1]; simp; lia
  refine fO w2.a ht hq1 fun os3 D3 l3 k3 hD3 hl3 told3 => ?_
  have w3 := w2.same k3
  refine fO w3.b hu (by rw [b3]; exact hq1) fun os4 D4 l4 k4 hD4 hl4 told4 => ?_
  have w4 := w3.same k4
  rw [b3] at told4
  have e1 : bz tb os4 .NotEq (.obj D3) (.obj D4) = some false := lF (jo (n := 2) (iL (cT hl3) k4) (cT hl4) (told3.tell.keep k4) told4.tell)
  simp only [e1, cond_false, aB, br]
  refine gI ?_
  refine dn (mC ?_)
  refine j7 w4.a ht ?_
  have i1 := oP w4.a
  simp only [ad, bz, i1]
  refine mC ?_
  refine j7 w4.b hu ?_
  have i2 := oP w4.b
  have e2 : U2.cur.isNone = T1.cur.isNone := by rw [b2, r4, a2]
  rw [e2] at i2
  simp only [ad, bz, i2]
  have e3 : deq tb os4 4 (.bool T1.cur.isNone) (.bool T1.cur.isNone) = some true := gY _ trivial
  simp only [e3, Bool.not_true, cond_false, br]
  have last : ∀ os5, Kp (fun _ => False) os4 os5 → ae (ay (dR tb .Eq (aI N.N 156 F.charsUntil (ak N.e (aa N.c)) [(bq [])]) (aI N.N 156 F.charsUntil (ak N.e (aa N.q)) [(bq [])]))) aj ⟨loc, os5⟩ (fun fl _ => fl = .ret (.bool true)) := by
    intro os5 k5
    have w5 := w4.same k5
    refine kO ?_
    refine mC ?_
    refine mB w5.a ht fun os6 T6 g6 h6 => ?_
    have w6 := w5.left g6 h6
    refine mB w6.b hu fun os7 U7 g7 h7 => ?_
    rw [b1]
    have e4 : bz tb os7 .Eq (.str T1.S.rem) (.str T1.S.rem) = some true := gY _ trivial
    simp only [e4]
  refine gI ?_
  refine kU ?_
  refine qB hf _ ?_
  by_cases c1 : fo = [100, 97, 116, 97]
  · rw [decide_eq_true c1]
    exact last os4 (Kp.refl _ _)
  · rw [decide_eq_false c1]
    simp only [Bool.not_false, cond_true]
    have r5 := r5 c1
    have e5 : U2.cur = T1.cur := by rw [b2, r5, a2]
    refine kU (dn ?_)
    refine j7 w4.b hu ?_
    have i3 : bz tb os4 .IsNot U2.ca .none = some (!T1.cur.isNone) := by
      show (match isA U2.ca .none with | some r => some (!r) | none => none) = _
      rw [i2]
    simp only [ad, i3]
    cases c2 : T1.cur with
    | none => exact last os4 (Kp.refl _ _)
    | some tk =>
      simp only [Option.isNone_some, Bool.not_false, cond_true]
      refine kU (dn ?_)
      refine eJ w4.a ht c2 ?_
      have w5 := w4.same (Kp.app _ os4 [AO.tup (bX tk)])
      refine eJ w5.b hu (e5.trans c2) ?_
      have e6 : bz tb (os4 ++ [AO.tup (bX tk)] ++ [AO.tup (bX tk)]) .NotEq (.obj os4.length) (.obj (os4 ++ [AO.tup (bX tk)]).length) = some false :=
        lF (gn (n := 3) (cF (aT (bf rfl))) (cF (bf rfl)) (gp tk))
      simp only [e6, cond_false]
      refine last _ ?_
      rw [List.append_assoc]
      exact Kp.app _ _ _
end
section
variable {O P : Nat → Prop} {os : List AO} {t u : Nat} {T U : Ts} {loc : List (Nat × AV)}
noncomputable def iN (rem : List Nat) (cur : Option Tok) : Res := ⟨true, fz (bF rem).gone rem, p6 (bF rem).cur cur, (bF rem).q⟩
theorem lG : lC F.closeTagOpenState iN fun T => T.q = [] ∧ T.sep = true := by
  rintro O os t T k h ⟨h1, h2⟩ hq hk
  exact gC O os t T k h h1 h2 fun O' os' T' g h' a1 a2 a3 a4 a5 a6 => hk O' os' T' g h' a1 a3 (by rw [h1, a4]; rfl)
noncomputable def fM : List Nat := [109, 97, 114, 107, 117, 112]
noncomputable def fC : List Nat := [99, 108, 111, 115, 101]
noncomputable def fB : List Nat := [98, 111, 103, 117, 115]
noncomputable def fA : List Nat := [97, 116, 116, 114, 105, 98, 117, 116, 101, 115]
noncomputable def fS : List Nat := [115, 108, 97, 115, 104]
noncomputable def fD : List Nat := [100, 97, 116, 97]
theorem ee {n g : Nat} {G : TF} {k : AV → List AO → Prop} {V : TS} (h : TV P os u U) (hx : ag N.c loc = some (.obj u)) (hm : cw 762 n cr = some g) (hn : ∀ a b c d e, ag n (Tfs a b c d e) = none) (hk : G [.obj u] os k) : ae (ay (aI n g G (aa N.c) [])) V ⟨loc, os⟩ (gK k) := by
  refine kO ?_
  exact gZ h hx hm hn hk
theorem ca {u : Nat} {fo : List Nat} : ag N.c [(N.c, AV.obj u), (N.p, AV.str fo)] = some (.obj u) := aE _ _ _
theorem cb {u : Nat} {fo : List Nat} : ag N.p [(N.c, AV.obj u), (N.p, AV.str fo)] = some (.str fo) := by simp (disch := decide) only [aZ, aE]
theorem foM : Fol fM 605 F.markupDeclarationOpenState dO fun T => T.q = [] ∧ T.sep = true := ⟨rfl, nj, fun P os u U k h hk => by
  refine bW (loc := [(N.c, .obj u), (N.p, .str fM)]) rfl ?_
  unfold _root_.Mine.T.ulaw_call
  refine cz (cJ cb rfl) ?_
  rw [a7]
  exact ee h ca mm1 (fun _ _ _ _ _ => rfl) hk⟩
theorem foC : Fol fC 360 F.closeTagOpenState iN fun T => T.q = [] ∧ T.sep = true := ⟨rfl, lG, fun P os u U k h hk => by
  refine bW (loc := [(N.c, .obj u), (N.p, .str fC)]) rfl ?_
  unfold _root_.Mine.T.ulaw_call
  refine bo (bU cb (by decide)) ?_
  rw [br]
  refine cz (cJ cb rfl) ?_
  rw [a7]
  exact ee h ca mm2 (fun _ _ _ _ _ => rfl) hk⟩
theorem foB : Fol fB 598 F.bogusCommentState eY fun _ => True := ⟨rfl, lD, fun P os u U k h hk => by
  refine bW (loc := [(N.c, .obj u), (N.p, .str fB)]) rfl ?_
  unfold _root_.Mine.T.ulaw_call
  refine bo (bU cb (by decide)) ?_
  rw [br]
  refine bo (bU cb (by decide)) ?_
  rw [br]
  refine cz (cJ cb rfl) ?_
  rw [a7]
  exact ee h ca mm4 (fun _ _ _ _ _ => rfl) hk⟩
theorem foA : Fol fA 535 F.beforeAttributeNameState di gz := ⟨rfl, nf, fun P os u U k h hk => by
  refine bW (loc := [(N.c, .obj u), (N.p, .str fA)]) rfl ?_
  unfold _root_.Mine.T.ulaw_call
  refine bo (bU cb (by decide)) ?_
  rw [br]
  refine bo (bU cb (by decide)) ?_
  rw [br]
  refine bo (bU cb (by decide)) ?_
  rw [br]
  refine cz (cJ cb rfl) ?_
  rw [a7]
  exact ee h ca mm5 (fun _ _ _ _ _ => rfl) hk⟩
theorem foS : Fol fS 591 F.selfClosingStartTagState gk gz := ⟨rfl, nc, fun P os u U k h hk => by
  refine bW (loc := [(N.c, .obj u), (N.p, .str fS)]) rfl ?_
  unfold _root_.Mine.T.ulaw_call
  refine bo (bU cb (by decide)) ?_
  rw [br]
  refine bo (bU cb (by decide)) ?_
  rw [br]
  refine bo (bU cb (by decide)) ?_
  rw [br]
  refine bo (bU cb (by decide)) ?_
  rw [br]
  refine cz (cJ cb rfl) ?_
  rw [a7]
  exact ee h ca mm6 (fun _ _ _ _ _ => rfl) hk⟩
theorem foD : Fol fD 304 F.dataState cC fun _ => True := ⟨rfl, m9, fun P os u U k h hk => by
  refine bW (loc := [(N.c, .obj u), (N.p, .str fD)]) rfl ?_
  unfold _root_.Mine.T.ulaw_call
  refine bo (bU cb (by decide)) ?_
  rw [br]
  refine bo (bU cb (by decide)) ?_
  rw [br]
  refine bo (bU cb (by decide)) ?_
  rw [br]
  refine bo (bU cb (by decide)) ?_
  rw [br]
  refine bo (bU cb (by decide)) ?_
  rw [br]
  exact ee h ca me2 (fun _ _ _ _ _ => rfl) hk⟩
noncomputable def mD (fo : List Nat) (f : List Nat → Option Tok → Res) (c d : Option Tok) : Prop := ∀ r, (f r d).ret = (f r c).ret ∧ (f r d).rem = (f r c).rem ∧ (f r d).q = (f r c).q ∧ (f r d).cur.isNone = (f r c).cur.isNone ∧ (fo ≠ [100, 97, 116, 97] → (f r d).cur = (f r c).cur) ∧ (f r c).q.length ≤ 100
theorem cj {fo : List Nat} {f : List Nat → Option Tok → Res} {c : Option Tok} (h : ∀ r, (f r c).q.length ≤ 100) : mD fo f c c := fun r => ⟨rfl, rfl, rfl, rfl, fun _ => rfl, h r⟩
theorem oU (r : List Nat) (c : Option Tok) : (cC r c).q.length ≤ 100 := by
  unfold cC
  split
  · exact Nat.zero_le _
  · split
    · exact Nat.zero_le _
    · split
      · simp
      · split <;> simp
theorem rX (r : List Nat) (c : Option Tok) : (eY r c).q.length ≤ 100 := by simp [eY]
theorem sW (r : List Nat) (c : Option Tok) : (dO r c).q.length ≤ 100 := by
  unfold dO
  split
  · simp
  · split
    · split
      · split <;> simp
      · simp
    · split
      · split <;> simp
      · simp
theorem sX (r : List Nat) (c : Option Tok) : (iN r c).q.length ≤ 100 := by
  unfold iN
  unfold bF
  split
  · simp
  · split
    · simp
    · split <;> simp
theorem rY (kd : Int) (nm : List Nat) (sc : Bool) : (dH kd sc ++ [ch kd nm sc]).length ≤ 100 := by
  rw [List.length_append]
  unfold dH
  split <;> simp
theorem sY (r : List Nat) (kd : Int) (nm : List Nat) (n : Nat) (a b : Bool) : (gk r (some (.tag kd nm n a b))).q.length ≤ 100 := by
  unfold gk
  split
  · simp
  · split
    · exact rY _ _ _
    · simp
theorem sZ (r : List Nat) (kd : Int) (nm : List Nat) (n : Nat) (a b : Bool) : (di r (some (.tag kd nm n a b))).q.length ≤ 100 := by
  unfold di
  split
  · simp
  · repeat' split
    all_goals first
      | exact rY _ _ _
      | simp
theorem oV (c d : Option Tok) (h : c.isNone = d.isNone) : mD fD cC c d := by
  intro r
  refine ⟨?_, ?_, ?_, ?_, fun q => absurd rfl q, oU r c⟩
  all_goals
    unfold cC
    split
    · first | rfl | exact h.symm
    · repeat' split
      all_goals first
        | rfl
        | exact h.symm
end
section
variable {O P : Nat → Prop} {os : List AO} {t u : Nat} {T U : Ts} {loc : List (Nat × AV)}
theorem lH {M : List Nat} {us : Nat} {k : AV → St → Prop} (hm : ag N.o loc = some (.str M)) (hu : ag N.v loc = some (.int us)) (hk : F.ulaw_place [.str M, .int us] os fun v os' => k v ⟨loc, os'⟩) : aW F.ulaw_place [(aa N.o), (aa N.v)] ⟨loc, os⟩ k := by
  simp only [aW, aX, aa, hm, hu]; exact hk
noncomputable def rZ (O : Nat → Prop) (os : List AO) (loc : List (Nat × AV)) (c d : Option Tok) : Prop :=
  (ag N.t loc = some .none ∧ d = none) ∨ ∃ g kd nm nn sc b, ag N.t loc = some (.obj g) ∧ ag N.n loc = some (.int kd) ∧ os[g]? = some (.tup (bX (.tag kd nm nn sc b))) ∧ ¬ O g ∧ g < os.length ∧ c = some (.tag kd nm nn sc b) ∧ d = some (.tag kd nm 0 false false) ∧ (kd = 3 ∨ kd = 4) ∧ nm.length ≤ 9000
theorem e7 {M fo : List Nat} {us : Nat} {G : TF} {f : List Nat → Option Tok → Res} {pre : Ts → Prop} {dv : AV} {l' : List AV} {d : Option Tok} (h : TV O os t T)
    (ht : ag N.c loc = some (.obj t)) (hw : ag N.x loc = some (.bool true)) (hm : ag N.o loc = some (.str M)) (hu : ag N.v loc = some (.int us)) (hus : us ≤ M.length) (hM : M.length ≤ 9000) (h13 : 13 ∉ M) (hsur : ∀ c ∈ M, c < 55296 ∨ 56319 < c)
    (hd : ag N.y loc = some dv) (hl : bt tb os dv = some (false, l')) (tell : Tell os l' T.q) (hq : T.q.length ≤ 5000)
    (hpos : T.S.pos = bv (0, 0) (M.take us)) (hrem : T.S.rem = M.drop us)
    (hf : ag N.p loc = some (.str fo)) (fol : Fol fo T.st G f pre)
    (p1 : ∀ T' : Ts, T'.q = [] → T'.sep = true → T'.cur = T.cur → pre T') (p2 : ∀ U' : Ts, U'.q = [] → U'.sep = true → U'.cur = d → pre U')
    (al : mD fo f T.cur d) (tag : rZ O os loc T.cur d) : _root_.Mine.T.lw3 ⟨loc, os⟩ (fun fl _ => fl = .ret (.bool true)) := by
  unfold _root_.Mine.T.lw3
  refine gI (kT (iM hw ?_))
  simp only [cond_false]
  refine kT (dn ?_)
  refine fO h ht (by lia) fun os1 D l k1 hD hDl told => ?_
  have h1 := h.other k1 fun _ _ q => q
  have e1 : bz tb os1 .NotEq (.obj D) dv = some false := lF (jo (n := 2) (cT hDl) (iL hl k1) told.tell (tell.keep k1))
  simp only [aa, hd, e1, cond_false]
  refine kT (dn ?_)
  refine re h1 ht fun os2 k2 h2 hp2 hl2 => ?_
  refine lH hm hu (lA (by lia) fun os3 i k3 hi hpl => ?_)
  have h3 := h2.other k3 fun _ _ q => q
  rw [hpos] at hp2
  have e2 : bz tb os3 .NotEq (.obj (os1.length + 1)) (.obj i) = some false := lF (gn (n := 3) (cF (k3.at hp2 (fun q => q))) (cF hpl) (by
    intro x hx
    simp only [List.mem_cons, List.not_mem_nil, or_false] at hx
    rcases hx with rfl | rfl <;> exact trivial))
  simp only [e2, cond_false, aB, br]
  have kp3 : Kp O os os3 := ((k1.sub fun _ q => q.elim).trans k2).trans (k3.sub fun _ q => q.elim)
  refine rW h3 ht hm hu hus hM h13 hsur fun O4 P4 os4 u T4 U4 w4 k4 s1 s2 s3 s4 s5 s6 s7 s8 s9 => ?_
  have kp4 := kp3.trans k4
  have lt : ag N.c (put N.q (.obj u) loc) = some (.obj t) := lq rfl ht
  have lu : ag N.q (put N.q (.obj u) loc) = some (.obj u) := am _ _ _
  have lf : ag N.p (put N.q (.obj u) loc) = some (.str fo) := lq rfl hf
  have hr : U4.S.rem = T4.S.rem := by rw [s6, s1]; exact hrem.symm
  have go : ∀ (P5 : Nat → Prop) os5 U5, Two O4 P5 os5 t u T4 U5 → U5.q = [] → U5.sep = true → U5.cur = d → U5.S.rem = T4.S.rem → _root_.Mine.T.lw4 ⟨put N.q (.obj u) loc, os5⟩ (fun fl _ => fl = .ret (.bool true)) := by
    intro P5 os5 U5 w5 c1 c2 c3 c4
    have a := al T4.S.rem
    rw [← c3, ← s3] at a
    obtain ⟨a1, a2, a3, a4, a5, a6⟩ := a
    exact oT w5 lt lu lf (s2 ▸ fol) (p1 _ s4 s5 s3) (p2 _ c1 c2 c3) s4 c1 c4 a1 a2 a3 a4 a5 a6
  refine gI ?_
  rcases tag with ⟨g1, g2⟩ | ⟨g, kd, nm, nn, sc, b, g1, g2, g3, g4, g4', g5, g6, g7, g8⟩
  · have ltag : ag N.t (put N.q (.obj u) loc) = some .none := lq rfl g1
    refine dn ?_
    have e3 : bz tb os4 .IsNot .none .none = some false := rfl
    simp only [aa, ltag, ad, e3, cond_false, br]
    exact go P4 os4 U4 w4 s8 s9 (s7.trans g2.symm) hr
  · have ltag : ag N.t (put N.q (.obj u) loc) = some (.obj g) := lq rfl g1
    have lk : ag N.n (put N.q (.obj u) loc) = some (.int kd) := lq rfl g2
    have hg4 : os4[g]? = some (.tup (bX (.tag kd nm nn sc b))) := kp4.at g3 g4
    refine dn ?_
    have e3 : bz tb os4 .IsNot (.obj g) .none = some true := rfl
    simp only [aa, ltag, ad, e3, cond_true, a7, br]
    refine gI (dn ?_)
    refine eJ w4.a lt (s3.trans g5) ?_
    have e4 : bz tb (os4 ++ [AO.tup (bX (.tag kd nm nn sc b))]) .NotEq (.obj os4.length) (.obj g) = some false := lF (gn (n := 3) (cF (bf rfl)) (cF (aT hg4)) (gp _))
    simp only [aa, ltag, e4, cond_false, br]
    have w5 := w4.same (Kp.app _ os4 [AO.tup (bX (.tag kd nm nn sc b))])
    have hg5 : (os4 ++ [AO.tup (bX (.tag kd nm nn sc b))])[g]? = some (.tup (bX (.tag kd nm nn sc b))) := aT hg4
    generalize os4 ++ [AO.tup (bX (.tag kd nm nn sc b))] = os5 at *
    refine aF fun K hK => d9 (b := true) (tk := .tag kd nm 0 false false) w5.b lu (fun K hK => rV lk ltag hg5 (by simp) K hK) (j5 g7 g8) (fun _ k hk => by rw [s8] at hk; cases hk) fun P6 os6 gg h6 => hK _ ?_
    exact go P6 os6 _ (w5.right gg h6) s8 rfl g6.symm hr
end
section
variable {O P : Nat → Prop} {os : List AO} {t u : Nat} {T U : Ts} {loc : List (Nat × AV)}
noncomputable def r8 (T : Ts) : Prop := T.q = [] ∧ T.sep = true
noncomputable def no (_ : Ts) : Prop := True
structure Cell (o : One) (a : Nat) (fo : List Nat) (G : TF) (f : List Nat → Option Tok → Res) (pre : Ts → Prop) (dv : AV) (l' : List AV) : Prop where
  s1 : ∀ os, bt tb os (.glob (.ref a)) = some (true, [dv, .bool o.gone, .str fo])
  s2 : ∀ os, bt tb os dv = some (false, l')
  s3 : ∀ os, Tell os l' o.q
  fol : Fol fo o.st G f pre
  p : ∀ T' : Ts, T'.q = [] → T'.sep = true → pre T'
  al : mD fo f none none
  c : o.cur = none
  len : o.q.length ≤ 100
theorem r9 : Cell ⟨[], true, 605, none⟩ 770 fM F.markupDeclarationOpenState dO r8 (.glob (.ref 769)) [] := ⟨fun _ => rfl, fun _ => rfl, fun _ => trivial, foM, fun _ a b => ⟨a, b⟩, cj fun r => sW r _, rfl, by simp⟩
theorem sa : Cell ⟨[], true, 360, none⟩ 772 fC F.closeTagOpenState iN r8 (.glob (.ref 771)) [] := ⟨fun _ => rfl, fun _ => rfl, fun _ => trivial, foC, fun _ a b => ⟨a, b⟩, cj fun r => sX r _, rfl, by simp⟩
theorem sd : Cell ⟨[.plain 7 eBr, .plain 1 [60, 62]], true, 304, none⟩ 776 fD F.dataState cC no (.glob (.ref 775)) [.glob (.ref 773), .glob (.ref 774)] := ⟨fun _ => rfl, fun _ => rfl, fun _ => ⟨rfl, rfl, trivial⟩, foD, fun _ _ _ => trivial, cj fun r => oU r _, rfl, by simp⟩
theorem se : Cell ⟨[.plain 7 eQm], false, 598, none⟩ 779 fB F.bogusCommentState eY no (.glob (.ref 778)) [.glob (.ref 777)] := ⟨fun _ => rfl, fun _ => rfl, fun _ => ⟨rfl, trivial⟩, foB, fun _ _ _ => trivial, cj fun r => rX r _, rfl, by simp⟩
theorem qC : Cell ⟨[.plain 7 eNm, .plain 1 [60]], false, 304, none⟩ 783 fD F.dataState cC no (.glob (.ref 782)) [.glob (.ref 780), .glob (.ref 781)] := ⟨fun _ => rfl, fun _ => rfl, fun _ => ⟨rfl, rfl, trivial⟩, foD, fun _ _ _ => trivial, cj fun r => oU r _, rfl, by simp⟩
theorem sf : Cell ⟨[.plain 7 eCb], true, 304, none⟩ 787 fD F.dataState cC no (.glob (.ref 786)) [.glob (.ref 785)] := ⟨fun _ => rfl, fun _ => rfl, fun _ => ⟨rfl, trivial⟩, foD, fun _ _ _ => trivial, cj fun r => oU r _, rfl, by simp⟩
theorem sg : Cell ⟨[.plain 7 eCe, .plain 1 [60, 47]], false, 304, none⟩ 791 fD F.dataState cC no (.glob (.ref 790)) [.glob (.ref 788), .glob (.ref 789)] := ⟨fun _ => rfl, fun _ => rfl, fun _ => ⟨rfl, rfl, trivial⟩, foD, fun _ _ _ => trivial, cj fun r => oU r _, rfl, by simp⟩
theorem sh : Cell ⟨[.plain 7 eCc], false, 598, none⟩ 794 fB F.bogusCommentState eY no (.glob (.ref 793)) [.glob (.ref 792)] := ⟨fun _ => rfl, fun _ => rfl, fun _ => ⟨rfl, trivial⟩, foB, fun _ _ _ => trivial, cj fun r => rX r _, rfl, by simp⟩
noncomputable def rf (F0 : List Nat) (c1 c2 a : Nat) : Prop := ∃ fs, i0 c1 tb.dicts = some fs ∧ ((dj F0 fs = some (.glob (.ref a))) ∨ (dj F0 fs = none ∧ a = c2))
theorem lI (M : List Nat) (hM : ∀ c r, M = c :: r → a8 c alL = false) : ∃ a fo G f pre dv l', rf (M.take 1) 784 794 a ∧ Cell (bF M) a fo G f pre dv l' := by
  cases M with
  | nil => exact ⟨791, _, _, _, _, _, _, ⟨_, rfl, .inl rfl⟩, sg⟩
  | cons c r =>
    have h0 := hM c r rfl
    unfold bF
    dsimp only
    rw [if_neg (by rw [h0]; simp)]
    by_cases c1 : c = 62
    · subst c1
      rw [if_pos rfl]
      exact ⟨787, _, _, _, _, _, _, ⟨_, rfl, .inl rfl⟩, sf⟩
    · rw [if_neg c1]
      refine ⟨794, _, _, _, _, _, _, ⟨_, rfl, .inr ⟨?_, rfl⟩⟩, sh⟩
      show dj [c] _ = none
      unfold dj
      rw [if_neg (by simp; lia)]
      unfold dj
      rw [if_neg (by simp)]
      rfl
theorem nq (M : List Nat) (hM : ∀ c r, M = c :: r → a8 c alL = false) : ∃ a fo G f pre dv l', rf (M.take 1) 768 783 a ∧ Cell (cq M) a fo G f pre dv l' := by
  cases M with
  | nil => exact ⟨783, _, _, _, _, _, _, ⟨_, rfl, .inr ⟨rfl, rfl⟩⟩, qC⟩
  | cons c r =>
    have h0 := hM c r rfl
    unfold cq
    dsimp only
    by_cases c1 : c = 33
    · subst c1
      rw [if_pos rfl]
      exact ⟨770, _, _, _, _, _, _, ⟨_, rfl, .inl rfl⟩, r9⟩
    rw [if_neg c1]
    by_cases c2 : c = 47
    · subst c2
      rw [if_pos rfl]
      exact ⟨772, _, _, _, _, _, _, ⟨_, rfl, .inl rfl⟩, sa⟩
    rw [if_neg c2, if_neg (by rw [h0]; simp)]
    by_cases c3 : c = 62
    · subst c3
      rw [if_pos rfl]
      exact ⟨776, _, _, _, _, _, _, ⟨_, rfl, .inl rfl⟩, sd⟩
    rw [if_neg c3]
    by_cases c4 : c = 63
    · subst c4
      rw [if_pos rfl]
      exact ⟨779, _, _, _, _, _, _, ⟨_, rfl, .inl rfl⟩, se⟩
    rw [if_neg c4]
    refine ⟨783, _, _, _, _, _, _, ⟨_, rfl, .inr ⟨?_, rfl⟩⟩, qC⟩
    show dj [c] _ = none
    unfold dj
    rw [if_neg (by simp; lia)]
    unfold dj
    rw [if_neg (by simp; lia)]
    unfold dj
    rw [if_neg (by simp; lia)]
    unfold dj
    rw [if_neg (by simp; lia)]
    rfl
noncomputable def T.lwB : TS :=
  (ae (gu tb (dw (bY tb (cA .Mod (aa N.D) (ad (.int 2)))) (bq [(ad (.glob (.ref 784))), (ad (.glob (.ref 794)))]) (bq [(ad (.glob (.ref 768))), (ad (.glob (.ref 783)))])) [(aY N.Q), (aY N.aa)])
  (ae (gu tb (dw (aq tb .In (aa N.B) (aa N.Q)) (aU tb (aa N.Q) (aa N.B)) (aa N.aa)) [(aY N.y), (aY N.Y), (aY N.p)])
  (ae (aR N.v (dw (bY tb (aa N.Y)) (ad (.int 1)) (ad (.int 0))))
  aj)))
noncomputable def T.isOdd : TB := bY tb (cA .Mod (aa N.D) (ad (.int 2)))
theorem mE {wy : Int} {K : Bool → St → Prop} (hw : ag N.D loc = some (.int wy)) (hK : K (wy.fmod 2 != 0) ⟨loc, os⟩) : bY tb (cA .Mod (aa N.D) (ad (.int 2))) ⟨loc, os⟩ K := by
  have b : ((2 : Int) != 0) = true := rfl
  simp only [bY, cA, aa, hw, ad, iS, b, cond_true, eS]
  exact hK
theorem gE {β : Type} {C : TB} {A B : St → (β → St → Prop) → Prop} {st : St} {k : β → St → Prop} (h : C st fun b st' => bif b then A st' k else B st' k) : dw C A B st k := h
theorem oW {M : List Nat} {wy : Int} {b : Bool} (h : TV O os t T) (hb : (wy.fmod 2 != 0) = b)
    (ht : ag N.c loc = some (.obj t)) (hw : ag N.x loc = some (.bool true)) (hm : ag N.o loc = some (.str M)) (hM : M.length ≤ 5000) (h13 : 13 ∉ M) (hsur : ∀ c ∈ M, c < 55296 ∨ 56319 < c)
    (hy : ag N.D loc = some (.int wy)) (hfi : ag N.B loc = some (.str (M.take 1))) (htag : ag N.t loc = some .none) (hal : ∀ c r, M = c :: r → a8 c alL = false)
    (hne : ((if b then bF else cq) M).gone = true → M ≠ [])
    (c1 : T.S.rem = fz ((if b then bF else cq) M).gone M) (c2 : T.S.pos = gj ((if b then bF else cq) M).gone (0, 0) M) (c3 : T.cur = p6 ((if b then bF else cq) M).cur none) (c4 : T.q = ((if b then bF else cq) M).q) (c5 : T.st = ((if b then bF else cq) M).st) :
    ae _root_.Mine.T.lwB _root_.Mine.T.lw3 ⟨loc, os⟩ (fun fl _ => fl = .ret (.bool true)) := by
  unfold _root_.Mine.T.lwB
  simp only [a7, br]
  have key : ∃ p q a fo G f pre dv l', rf (M.take 1) p q a ∧ Cell ((if b then bF else cq) M) a fo G f pre dv l' ∧ (∀ K : AV → St → Prop, K (.obj os.length) ⟨loc, os ++ [.tup [.glob (.ref p), .glob (.ref q)]]⟩ → dw (bY tb (cA .Mod (aa N.D) (ad (.int 2)))) (bq [(ad (.glob (.ref 784))), (ad (.glob (.ref 794)))]) (bq [(ad (.glob (.ref 768))), (ad (.glob (.ref 783)))]) ⟨loc, os⟩ K) := by
    have e2 : ∀ a b : AV, Nat.ble [a, b].length 1000 = true := fun _ _ => rfl
    cases b with
    | true =>
      obtain ⟨a, fo, G, f, pre, dv, l', h1, h2⟩ := lI M hal
      refine ⟨784, 794, a, fo, G, f, pre, dv, l', h1, h2, fun K hK => gE (mE hy ?_)⟩
      rw [hb]
      simp only [cond_true, bq, aX, ad, e2]
      exact hK
    | false =>
      obtain ⟨a, fo, G, f, pre, dv, l', h1, h2⟩ := nq M hal
      refine ⟨768, 783, a, fo, G, f, pre, dv, l', h1, h2, fun K hK => gE (mE hy ?_)⟩
      rw [hb]
      simp only [cond_false, cond_true, bq, aX, ad, e2]
      exact hK
  obtain ⟨p, q, a, fo, G, f, pre, dv, l', ⟨fs, pk1, pk2⟩, ce, tu⟩ := key
  generalize ((if b then bF else cq) M) = o at *
  refine aF fun K hK => ?_
  unfold gu
  refine tu _ ?_
  have e2 : Nat.beq [AV.glob (.ref p), .glob (.ref q)].length [aY N.Q, aY N.aa].length = true := rfl
  have es : bt tb (os ++ [AO.tup [.glob (.ref p), .glob (.ref q)]]) (.obj os.length) = some (true, [.glob (.ref p), .glob (.ref q)]) := cF (bf rfl)
  simp only [es, e2, cond_true, dT, aY]
  refine hK _ ?_
  have h1 := h.app [AO.tup [.glob (.ref p), .glob (.ref q)]]
  generalize os ++ [AO.tup [.glob (.ref p), .glob (.ref q)]] = os1 at *
  have lc : ag N.Q (put N.aa (.glob (.ref q)) (put N.Q (.glob (.ref p)) loc)) = some (.glob (.ref p)) := lq rfl (am _ _ _)
  have lo : ag N.aa (put N.aa (.glob (.ref q)) (put N.Q (.glob (.ref p)) loc)) = some (.glob (.ref q)) := am _ _ _
  have lk : ∀ {n : Nat} {v : AV}, N.aa ≠ n → N.Q ≠ n → ag n loc = some v → ag n (put N.aa (.glob (.ref q)) (put N.Q (.glob (.ref p)) loc)) = some v := fun a b c => bk a (bk b c)
  have l1 := lk (by decide) (by decide) ht
  have l2 := lk (by decide) (by decide) hw
  have l3 := lk (by decide) (by decide) hm
  have l4 := lk (by decide) (by decide) hfi
  have l5 := lk (by decide) (by decide) htag
  clear lk
  generalize put N.aa (AV.glob (.ref q)) (put N.Q (.glob (.ref p)) loc) = loc1 at *
  refine aF fun K hK => ?_
  unfold gu
  have sel : ∀ K : AV → St → Prop, K (.glob (.ref a)) ⟨loc1, os1⟩ → dw (aq tb .In (aa N.B) (aa N.Q)) (aU tb (aa N.Q) (aa N.B)) (aa N.aa) ⟨loc1, os1⟩ K := by
    intro K hK
    have hin : bz tb os1 .In (.str (M.take 1)) (.glob (.ref p)) = some (dj (M.take 1) fs).isSome := by
      unfold bz
      dsimp only
      unfold inA
      simp only [pk1]
    refine gE (dn ?_)
    simp only [aa, l4, lc, hin]
    rcases pk2 with pk2 | ⟨pk2, rfl⟩
    · have hsu : cQ tb os1 (.glob (.ref p)) (.str (M.take 1)) = some (.glob (.ref a)) := by
        unfold cQ
        simp only [pk1, pk2]
      simp only [pk2, Option.isSome_some, cond_true, aU, aa, lc, l4, hsu]
      exact hK
    · simp only [pk2, Option.isSome_none, cond_false, aa, lo]
      exact hK
  refine sel _ ?_
  have e3 : Nat.beq [dv, AV.bool o.gone, .str fo].length [aY N.y, aY N.Y, aY N.p].length = true := rfl
  simp only [ce.s1, e3, cond_true, dT, aY]
  refine hK _ ?_
  refine bJ ?_
  refine gE ?_
  have lg : ag N.Y (put N.p (.str fo) (put N.Y (.bool o.gone) (put N.y dv loc1))) = some (.bool o.gone) := lq rfl (am _ _ _)
  have ld : ag N.y (put N.p (.str fo) (put N.Y (.bool o.gone) (put N.y dv loc1))) = some dv := lq rfl (lq rfl (am _ _ _))
  have lf : ag N.p (put N.p (.str fo) (put N.Y (.bool o.gone) (put N.y dv loc1))) = some (.str fo) := am _ _ _
  have lk : ∀ {n : Nat} {v : AV}, N.p ≠ n → N.Y ≠ n → N.y ≠ n → ag n loc1 = some v → ag n (put N.p (.str fo) (put N.Y (.bool o.gone) (put N.y dv loc1))) = some v := fun a b c d => bk a (bk b (bk c d))
  have l1 := lk (by decide) (by decide) (by decide) l1
  have l2 := lk (by decide) (by decide) (by decide) l2
  have l3 := lk (by decide) (by decide) (by decide) l3
  have l5 := lk (by decide) (by decide) (by decide) l5
  clear lk
  generalize put N.p (AV.str fo) (put N.Y (.bool o.gone) (put N.y dv loc1)) = loc2 at *
  simp only [bY, aa, lg, eS]
  have fin : ∀ us : Nat, us ≤ M.length → T.S.rem = M.drop us → T.S.pos = bv (0, 0) (M.take us) → _root_.Mine.T.lw3 ⟨put N.v (.int us) loc2, os1⟩ (fun fl _ => fl = .ret (.bool true)) := by
    intro us h2 h3 h4
    have cn : T.cur = none := by rw [c3, ce.c]; rfl
    have hq : T.q.length ≤ 5000 := by
      rw [c4]
      have := ce.len; lia
    refine e7 h1 (lq rfl l1) (lq rfl l2) (lq rfl l3) (am _ _ _) h2 (by lia) h13 hsur (lq rfl ld) (ce.s2 _) (c4 ▸ ce.s3 _) hq h4 h3 (lq rfl lf) (c5 ▸ ce.fol) (fun T' a b _ => ce.p T' a b) (fun T' a b _ => ce.p T' a b) (d := none) (cn ▸ ce.al) (.inl ⟨lq rfl l5, rfl⟩)
  have c1' := c1
  have c2' := c2
  unfold fz at c1'
  unfold gj at c2'
  cases hg : o.gone with
  | false =>
    simp only [cond_false, ad]
    rw [hg, if_neg (by decide)] at c1' c2'
    exact fin 0 (Nat.zero_le _) c1' c2'
  | true =>
    simp only [cond_true, ad]
    rw [hg, if_pos rfl] at c1' c2'
    cases hM2 : M with
    | nil => exact absurd hM2 (hne hg)
    | cons c r =>
      rw [hM2] at c1' c2'
      refine fin 1 (by rw [hM2]; simp) (by rw [hM2]; exact c1') (by rw [hM2]; exact c2')
end
theorem qD (os : List AO) (c : Nat) (y : List Nat) : bz tb os .In (.str [c]) (.str y) = some (a8 c y) := by
  show some (Txt.contains (txt y) (txt [c])) = _
  unfold Txt.contains
  have := PySem.StrLaws.found_one (txt y) c
  rw [show (⟨#[c]⟩ : Str) = txt [c] from rfl] at this
  rw [this]
  congr 1
  rw [Bool.eq_iff_iff, decide_eq_true_eq]
  unfold a8
  rw [List.any_eq_true]
  simp only [decide_eq_true_eq, exists_eq_right]
  exact Iff.rfl
noncomputable def Ext (L : List Nat) (a b : List (Nat × AV)) : Prop := ∀ n, n ∉ L → ag n b = ag n a
theorem Ext.refl (L : List Nat) (a : List (Nat × AV)) : Ext L a a := fun _ _ => rfl
theorem Ext.put {L : List Nat} {a b : List (Nat × AV)} {m : Nat} {v : AV} (h : Ext L a b) (hm : m ∈ L) : Ext L a (put m v b) := fun n hn => (cH v (fun q => hn (by rw [q]; exact hm)) b).trans (h n hn)
theorem Ext.at {L : List Nat} {a b : List (Nat × AV)} {n : Nat} {v : AV} (h : Ext L a b) (hn : n ∉ L) (hl : ag n a = some v) : ag n b = some v := (h n hn).trans hl
noncomputable def gq : List Nat := [32, 9, 10, 12, 47, 62]
section
variable {O P : Nat → Prop} {os : List AO} {t u : Nat} {T U : Ts} {loc : List (Nat × AV)}
noncomputable def T.wh : TS := (dU (du (aq tb .Lt (aa N.f) (aW eT [(aa N.o)])) (du (aq tb .NotIn (aU tb (aa N.o) (aa N.f)) (ad (.str [32, 9, 10, 12, 47, 62]))) (aB true))) (ae (c8 N.f .Add (ad (.int 1)))
  aj))
inductive Wi (M : List Nat) (loc : List (Nat × AV)) (os : List AO) (n : Nat) (st : St) : Prop
  | mk (e : Nat) (loc' : List (Nat × AV)) (e0 : st = ⟨loc', os⟩) (ex : Ext [N.f] loc loc') (hl : ag N.f loc' = some (.int e)) (h1 : 1 ≤ e) (h2 : e ≤ M.length) (h3 : ∀ c ∈ (M.take e).drop 1, a8 c gq = false) (hn : n = M.length - e) : Wi M loc os n st
theorem p9 {M : List Nat} {k : AF → St → Prop} (hm : ag N.o loc = some (.str M)) (he : ag N.f loc = some (.int 1)) (h1 : 1 ≤ M.length) (hM : M.length ≤ 5000)
    (hk : ∀ loc' e, Ext [N.f] loc loc' → ag N.f loc' = some (.int (e : Nat)) → 1 ≤ e → e ≤ M.length → (∀ c ∈ (M.take e).drop 1, a8 c gq = false) → (∀ c r, M.drop e = c :: r → a8 c gq = true) → k .next ⟨loc', os⟩) : _root_.Mine.T.wh ⟨loc, os⟩ k := by
  refine ⟨Wi M loc os, ⟨_, 1, _, rfl, Ext.refl _ _, he, Nat.le_refl _, h1, ?_, rfl⟩, ?_⟩
  · intro c hc
    rw [List.drop_eq_nil_of_le (by rw [List.length_take]; exact Nat.min_le_left _ _)] at hc; cases hc
  · rintro n _ ⟨e, loc', rfl, ex, hl, e1, e2, e3, rfl⟩
    have hm' : ag N.o loc' = some (.str M) := ex.at (by decide) hm
    have c0 := fun p => be (co := .Lt) (p := p) (af (st := ⟨loc', os⟩) hl) (jO (af hm') (by lia))
    cases hd : M.drop e with
    | nil =>
      have hle := List.drop_eq_nil_iff.mp hd
      refine (f7 (c0 false (congrArg some (decide_eq_false fun q => ?_)))).run (hk loc' e ex hl e1 e2 e3 fun c r q => by rw [hd] at q; cases q)
      exact Nat.not_lt.mpr hle (Int.ofNat_lt.mp q)
    | cons c r =>
      have hlt : e < M.length := by
        have := congrArg List.length hd
        rw [List.length_drop, List.length_cons] at this; lia
      have hg : M[e]? = some c := by rw [← List.head?_drop, hd]; rfl
      have hni : bz tb os .NotIn (.str [c]) (.str gq) = some (!a8 c gq) := by
        show kf (bz tb os .In (.str [c]) (.str gq)) = _
        rw [qD]; rfl
      have c1 := be (co := .NotIn) (ey (af (st := ⟨loc', os⟩) hm') (af hl) (gb (Nat.ble_eq_true_of_le (by lia)) (ff hlt) hg)) aA hni
      refine qp (c0 true (congrArg some (decide_eq_true (Int.ofNat_lt.mpr hlt)))) ?_
      cases c2 : a8 c gq with
      | true =>
        rw [c2] at c1
        exact (f7 c1).run (hk loc' e ex hl e1 e2 e3 fun c' r' q => by rw [hd] at q; cases q; exact c2)
      | false =>
        rw [c2] at c1
        refine (kx c1 n8).run (aO (jM hl aA rfl) ⟨M.length - (e + 1), by lia, e + 1, _, rfl, ex.put (.head _), lk0, Nat.le_succ_of_le e1, hlt, ?_, rfl⟩)
        intro c' hc
        rw [List.take_add_one, hg, List.drop_append_of_le_length (by rw [List.length_take]; lia)] at hc
        rcases List.mem_append.mp hc with hc | hc
        · exact e3 c' hc
        · rw [List.mem_singleton.mp hc]; exact c2
theorem oY {x : List Nat} {k : AV → St → Prop} {E : TE} (hE : ∀ K : AV → St → Prop, K (.str x) ⟨loc, os⟩ → E ⟨loc, os⟩ K) (hx : x.length ≤ 5000)
    (hk : ∀ os' D l, Kp (fun _ => False) os os' → os.length ≤ D → os'[D]? = some (.list l) → Told os' l (x.flatMap dY) → l.length ≤ x.length → k (.obj D) ⟨loc, os'⟩) :
    dK tb E N.s (fun C j => (aq tb .Eq (cN C j N.s) (ad (.str [0])))) (fun C j => (bq [(ad (.int 7)), (ad (.str [105, 110, 118, 97, 108, 105, 100, 45, 99, 111, 100, 101, 112, 111, 105, 110, 116]))])) ⟨loc, os⟩ k := by
  refine gU (els := x.map fun c => AV.str [c]) (fun o i l => Told o l ((x.take i).flatMap dY) ∧ l.length ≤ i) hE rfl (fun o _ i hi => qt o x i (by rw [List.length_map] at hi; exact hi)) (by rw [List.length_map]; lia) (fun _ => ⟨trivial, Nat.le_refl _⟩) (fun _ _ _ _ hz hR => ⟨hR.1.keep hz, hR.2⟩) ?_ ?_
  · intro i a l o C vars K1 K2 ha _ hc hl hR hK2 hK1
    rw [List.getElem?_map] at ha
    obtain ⟨c, hic, rfl⟩ := Option.map_eq_some_iff.mp ha
    have hstep : (x.take (i + 1)).flatMap dY = (x.take i).flatMap dY ++ dY c := by
      rw [List.take_add_one, hic, List.flatMap_append, Option.toList_some, List.flatMap_singleton]
    have hv := gR (st := ⟨loc, o⟩) hc hl
    rw [hstep] at hK1 hK2
    by_cases c0 : c = 0
    · subst c0
      rw [show dY 0 = [.plain 7 dN] from rfl] at hK1
      refine be (p := true) hv aA rfl _ (dW (st := ⟨loc, o⟩) (bI aA (bi aA)) rfl K1 (hK1 _ _ (Kp.app _ _ _) ⟨Told.snoc (os := o ++ [AO.tup (bX (.plain 7 dN))]) (k := .plain 7 dN) ⟨_, rfl, bf rfl⟩ (hR.1.keep fun _ _ hj => aT hj), ?_⟩))
      rw [List.length_append]; exact Nat.succ_le_succ hR.2
    · rw [show dY c = [] from if_neg c0, List.append_nil] at hK2
      exact be (co := .Eq) (b := .str [0]) (p := false) hv aA (congrArg some (decide_eq_false fun q => c0 (List.cons.inj q).1)) _ (hK2 o (Kp.refl _ _) ⟨hR.1, Nat.le_succ_of_le hR.2⟩)
  · intro l o kp hD hR
    rw [List.length_map, List.take_length] at hR
    exact hk o _ l kp (Nat.le_succ _) hD hR.1 hR.2
end
section
variable {O P : Nat → Prop} {os : List AO} {t u : Nat} {T U : Ts} {loc : List (Nat × AV)}
noncomputable def T.kB : TS := (ae (aR N.x (dw (bY tb (aa N.ad)) (aI N.aF 367 F.tagNameState (aa N.c) []) (iQ N.i FTs (aa N.c) [])))
  (ae (aIf (aq tb .IsNot (aa N.x) (ad (.bool true))) (ae (ay (ad (.bool false)))
  aj) aj)
  aj))
theorem mF {i : Nat} {K : AF → St → Prop} (Good : List AO → Prop) (h : TV O os t T) (ht : ag N.c loc = some (.obj t)) (hki : ag N.ad loc = some (.int i)) (h0 : i = 0 → T.st = 367)
    (hF : ∀ k' : AV → List AO → Prop, (∀ os', Good os' → k' (.bool true) os') → F.tagNameState [.obj t] os k')
    (hk : ∀ os', Good os' → K .next ⟨put N.x (.bool true) loc, os'⟩) : _root_.Mine.T.kB ⟨loc, os⟩ K := by
  unfold _root_.Mine.T.kB
  refine bJ (gE ?_)
  have fin : ∀ os', Good os' → ae (aIf (aq tb .IsNot (aa N.x) (ad (.bool true))) (ae (ay (ad (.bool false))) aj) aj) aj ⟨put N.x (.bool true) loc, os'⟩ K := by
    intro os' g
    refine gI (iM (am _ _ _) ?_)
    exact hk os' g
  simp only [bY, aa, hki, eS]
  by_cases c : i = 0
  · subst c
    have b : (((0 : Nat) : Int) != 0) = false := rfl
    simp only [b, cond_false]
    refine oQ h ht (Tf := F.tagNameState) (by rw [h0 rfl]; rfl) ?_
    exact hF _ fun os' g => fin os' g
  · have b : (((i : Nat) : Int) != 0) = true := by simpa using c
    simp only [b, cond_true]
    refine gZ h ht mm3 (fun _ _ _ _ _ => rfl) ?_
    exact hF _ fun os' g => fin os' g
theorem qd {c : Nat} (h : a8 c gq = false) (h13 : c ≠ 13) : a8 c spL = false ∧ c ≠ 62 ∧ c ≠ 47 := by
  unfold a8 gq at h
  unfold a8 spL
  simp at h ⊢
  lia
theorem oZ {c : Nat} (h : a8 c gq = true) : a8 c spL = true ∨ c = 62 ∨ c = 47 := by
  unfold a8 gq at h
  unfold a8 spL
  simp at h ⊢
  lia
theorem j8 : ∀ x : List Nat, (x.flatMap dY).length ≤ x.length
  | [] => Nat.le_refl _
  | c :: r => by
    rw [List.flatMap_cons, List.length_append, List.length_cons]
    have := j8 r
    have : (dY c).length ≤ 1 := by unfold dY; split <;> simp
    lia
theorem mG {M : List Nat} (h : ∀ c ∈ M, c ≤ 0x10FFFF) (n : Nat) : ∀ c ∈ (M.take n).map dX, c ≤ 0x10FFFF := by
  intro c hc
  obtain ⟨d, hd, rfl⟩ := List.mem_map.mp hc
  unfold dX
  split
  · decide
  · exact h d (List.mem_of_mem_take hd)
theorem rg {j e : Nat} {kd : Int} {M : List Nat} {K : AF → St → Prop} {loc0 : List (Nat × AV)} (hM : M.length ≤ 5000) (h13 : 13 ∉ M) (hsm : ∀ c ∈ M, c ≤ 0x10FFFF) (he : e ≤ M.length) (hg : ∀ c ∈ (M.take e).drop 1, a8 c gq = false) (hb : ∀ c r, M.drop e = c :: r → a8 c gq = true)
    (hK : ∀ O' os' loc' T', TV O' os' t T' → Ext [N.x, N.ad] loc0 loc' → ag N.x loc' = some (.bool true) → T'.S.rem = fz (cY kd ((M.take e).map dX) (M.drop e)).gone (M.drop e) → T'.S.pos = gj (cY kd ((M.take e).map dX) (M.drop e)).gone (bv (0, 0) (M.take e)) (M.drop e) → T'.cur = (cY kd ((M.take e).map dX) (M.drop e)).cur → T'.q = (M.take e).flatMap dY ++ (cY kd ((M.take e).map dX) (M.drop e)).q → T'.st = (cY kd ((M.take e).map dX) (M.drop e)).st → K .next ⟨loc', os'⟩) :
    ∀ (n i : Nat) (loc : List (Nat × AV)) (os : List AO) (O : Nat → Prop) (T : Ts), i + 1 + n = e → TV O os t T → ag N.c loc = some (.obj t) → Ext [N.x, N.ad] loc0 loc → T.S.rem = M.drop (i + 1) → T.S.pos = bv (0, 0) (M.take (i + 1)) → T.cur = some (.tag kd ((M.take (i + 1)).map dX) 0 false false) → T.q = (M.take (i + 1)).flatMap dY → T.sep = true → (i = 0 → T.st = 367) →
      os[j]? = some (.riter i e) → ¬ O j → dL j (aY N.ad) _root_.Mine.T.kB (n + 2) ⟨loc, os⟩ K := by
  intro n
  have hlen : ∀ m, ((M.take m).map dX).length ≤ 8000 := fun m => by rw [List.length_map, List.length_take]; lia
  have hql : ∀ m, ((M.take m).flatMap dY).length ≤ 5000 := fun m => by have := j8 (M.take m); rw [List.length_take] at this; lia
  induction n with
  | zero =>
    intro i loc os O T hi h ht ex r1 r2 r3 r4 r5 r6 hj hO
    have hie : i + 1 = e := hi
    subst hie
    have b1 : Nat.blt i (i + 1) = true := by unfold Nat.blt; exact Nat.ble_eq_true_of_le (Nat.le_refl _)
    unfold dL
    simp only [hj, b1, cond_true, aY]
    have h1 : TV O (os.set j (.riter (i + 1) (i + 1))) t T := h.other (P := fun x => x = j) (Kp.set rfl) fun x hx q => hO (q ▸ hx)
    have hj1 : (os.set j (.riter (i + 1) (i + 1)))[j]? = some (.riter (i + 1) (i + 1)) := aQ (ax hj)
    generalize os.set j (.riter (i + 1) (i + 1)) = os1 at *
    refine mF (i := i) (fun os' => ∃ O' T', Grow O os1 O' os' ∧ TV O' os' t T' ∧ T'.S.rem = fz (cY kd ((M.take (i + 1)).map dX) (M.drop (i + 1))).gone (M.drop (i + 1)) ∧ T'.S.pos = gj (cY kd ((M.take (i + 1)).map dX) (M.drop (i + 1))).gone (bv (0, 0) (M.take (i + 1))) (M.drop (i + 1)) ∧ T'.cur = (cY kd ((M.take (i + 1)).map dX) (M.drop (i + 1))).cur ∧ T'.q = (M.take (i + 1)).flatMap dY ++ (cY kd ((M.take (i + 1)).map dX) (M.drop (i + 1))).q ∧ T'.st = (cY kd ((M.take (i + 1)).map dX) (M.drop (i + 1))).st)
      h1 (lq rfl ht) (am _ _ _) r6 (fun k' hk' => oK h1 r3 r5 (fun c r q => oZ (hb c r (r1 ▸ q))) (hlen _) (mG hsm _) (by rw [r4]; exact hql _) fun O' os' T' g h' a1 a2 a3 a4 a5 => hk' os' ⟨O', T', g, h', ?_, ?_, ?_, ?_, ?_⟩) ?_
    · rw [a1, r1]
    · rw [a2, r1, r2]
    · rw [a3, r1]
    · rw [a4, r1, r4]
    · rw [a5, r1]
    · rintro os' ⟨O', T', g, h', a1, a2, a3, a4, a5⟩
      have hj2 : os'[j]? = some (.riter (i + 1) (i + 1)) := g.kp.at hj1 hO
      have hO2 : ¬ O' j := fun q => (g.new j q).elim hO fun q2 => by have := ax hj1; lia
      have b2 : Nat.blt (i + 1) (i + 1) = false := by
        unfold Nat.blt
        cases hq : Nat.ble (i + 1 + 1) (i + 1) with
        | false => rfl
        | true => exact absurd (Nat.le_of_ble_eq_true hq) (by lia)
      show dL j (aY N.ad) _root_.Mine.T.kB (0 + 1) _ K
      unfold dL
      simp only [hj2, b2, cond_false]
      exact hK O' _ _ T' (h'.other (P := fun x => x = j) (Kp.set rfl) fun x hx q => hO2 (q ▸ hx)) ((ex.put (.tail _ (.head _))).put (.head _)) (am _ _ _) a1 a2 a3 a4 a5
  | succ n ih =>
    intro i loc os O T hi h ht ex r1 r2 r3 r4 r5 r6 hj hO
    have b1 : Nat.blt i e = true := by unfold Nat.blt; exact Nat.ble_eq_true_of_le (by lia)
    show dL j (aY N.ad) _root_.Mine.T.kB ((n + 2) + 1) _ K
    unfold dL
    simp only [hj, b1, cond_true, aY]
    have h1 : TV O (os.set j (.riter (i + 1) e)) t T := h.other (P := fun x => x = j) (Kp.set rfl) fun x hx q => hO (q ▸ hx)
    have hj1 : (os.set j (.riter (i + 1) e))[j]? = some (.riter (i + 1) e) := aQ (ax hj)
    generalize os.set j (.riter (i + 1) e) = os1 at *
    have hlt : i + 1 < M.length := by lia
    have hd : M.drop (i + 1) = M[i + 1] :: M.drop (i + 1 + 1) := List.drop_eq_getElem_cons hlt
    have htk : M.take (i + 1 + 1) = M.take (i + 1) ++ [M[i + 1]] := by rw [List.take_add_one, List.getElem?_eq_getElem hlt]; rfl
    have hmem : M[i + 1] ∈ (M.take e).drop 1 := by
      rw [List.mem_iff_getElem]
      refine ⟨i, by simp; lia, ?_⟩
      simp [Nat.add_comm]
    obtain ⟨g1, g2, g3⟩ := qd (hg _ hmem) (fun q => h13 (q ▸ List.getElem_mem hlt))
    refine mF (i := i) (fun os' => ∃ O' T', Grow O os1 O' os' ∧ TV O' os' t T' ∧ T'.S.rem = M.drop (i + 1 + 1) ∧ T'.S.pos = bv (0, 0) (M.take (i + 1 + 1)) ∧ T'.cur = some (.tag kd ((M.take (i + 1 + 1)).map dX) 0 false false) ∧ T'.q = (M.take (i + 1 + 1)).flatMap dY ∧ T'.sep = true)
      h1 (lq rfl ht) (am _ _ _) r6 (fun k' hk' => na h1 (r1.trans hd) r3 r5 g1 g2 g3 (hlen _) (by rw [r4]; exact hql _) fun O' os' T' g h' a1 a2 a3 a4 a5 => hk' os' ⟨O', T', g, h', a1, ?_, ?_, ?_, a5⟩) ?_
    · rw [a2, r2, htk, cW]
    · rw [a3, htk, List.map_append]; rfl
    · rw [a4, r4, htk, List.flatMap_append]; simp
    · rintro os' ⟨O', T', g, h', a1, a2, a3, a4, a5⟩
      have hj2 : os'[j]? = some (.riter (i + 1) e) := g.kp.at hj1 hO
      have hO2 : ¬ O' j := fun q => (g.new j q).elim hO fun q2 => by have := ax hj1; lia
      exact ih (i + 1) _ os' O' T' (by lia) h' (lq rfl (lq rfl ht)) ((ex.put (.tail _ (.head _))).put (.head _)) a1 a2 a3 a4 a5 (fun q => by lia) hj2 hO2
end
section
variable {O P : Nat → Prop} {os : List AO} {t u : Nat} {T U : Ts} {loc : List (Nat × AV)}
noncomputable def T.lwF : TS := (ae (aIf (aq tb .Eq (aa N.R) (ad (.str []))) (ae (aK (aBM 2 bP (aa N.y) [(bq [(ad (.int 7)), (ad (.str [101, 111, 102, 45, 105, 110, 45, 116, 97, 103, 45, 110, 97, 109, 101]))])]))
  (ae (aR N.p (ad (.str [100, 97, 116, 97])))
  aj)) (ae (aIf (aq tb .Eq (aa N.R) (ad (.str [47]))) (ae (aR N.p (ad (.str [115, 108, 97, 115, 104])))
  aj) (ae (aIf (aq tb .Eq (aa N.R) (ad (.str [62]))) (ae (aR N.k (aBM 1 d6 (ad (.str [])) [(dK tb (aa N.k) N.s (fun C j => (aB true)) (fun C j => (dw (cD tb .LtE .LtE (ad (.str [65])) (cN C j N.s) (ad (.str [90]))) (aW nQ [(cA .Add (aW jF [(cN C j N.s)]) (ad (.int 32)))]) (cN C j N.s))))]))
  (ae (aR N.t (bq [(aa N.n), (aa N.k), (ad (.int 0)), (ad (.str [110, 111])), (dR tb .Eq (aa N.n) (aU tb (ad (.glob (.ref 48))) (ad (.str [83, 116, 97, 114, 116, 84, 97, 103]))))]))
  (ae (aK (aBM 2 bP (aa N.y) [(aa N.t)]))
  (ae (aR N.p (ad (.str [100, 97, 116, 97])))
  aj)))) aj)
  aj))
  aj))
  aj)
noncomputable def T.lwE : TS := (ae (aR N.k (gH [0] [65533] (dG (aa N.o) none (some (aa N.f)))))
  (ae (aR N.y (dK tb (dG (aa N.o) none (some (aa N.f))) N.s (fun C j => (aq tb .Eq (cN C j N.s) (ad (.str [0])))) (fun C j => (bq [(ad (.int 7)), (ad (.str [105, 110, 118, 97, 108, 105, 100, 45, 99, 111, 100, 101, 112, 111, 105, 110, 116]))]))))
  (ae (aR N.v (aW qS [(cA .Add (aa N.f) (ad (.int 1))), (aW eT [(aa N.o)])]))
  (ae (aR N.R (dG (aa N.o) (some (aa N.f)) (some (aa N.v))))
  (ae (aR N.t (bq [(aa N.n), (aa N.k), (ad (.int 0)), (ad (.str [110, 111])), (ad (.bool false))]))
  (ae (aR N.p (ad (.str [97, 116, 116, 114, 105, 98, 117, 116, 101, 115])))
  _root_.Mine.T.lwF))))))
noncomputable def T.lwA : TS := (ae (aR N.f (ad (.int 1)))
  (ae _root_.Mine.T.wh
  (ae (aIf (aOr (aq tb .IsNot (aa N.x) (ad (.bool true))) (aOr (bY tb (ak N.g (aa N.c))) (aOr (aq tb .NotEq (aW F.ulaw_token [(ak N.m (aa N.c))]) (bq [(aa N.n), (aa N.B), (ad (.int 0)), (ad (.str [110, 111])), (ad (.bool false))])) (aB false)))) (ae (ay (ad (.bool false)))
  aj) aj)
  (ae (l0 (aa N.f) (aY N.ad) _root_.Mine.T.kB)
  _root_.Mine.T.lwE))))
theorem o0 {K : Bool → St → Prop} {x : Nat} (h : TV O os t T) (hx : ag x loc = some (.obj t)) (hq : T.q = []) (hK : K false ⟨loc, os⟩) : bY tb (ak N.g (aa x)) ⟨loc, os⟩ K := by
  obtain ⟨Os, l4, m, Q, h⟩ := h
  have hl := h.toks.len
  rw [hq] at hl
  have hQ : Q = [] := List.length_eq_zero_iff.mp hl
  subst hQ
  have b0 : Nat.ble ([] : List AV).length 1000000 = true := rfl
  simp (disch := decide) only [bY, ak, aa, hx, dp h.inst t4, aE, aZ, cu, cond_true, eS, h.que, b0, List.isEmpty_nil, Bool.not_true]
  exact hK
theorem rh {a b c d e : AV} {K : AV → St → Prop} {A B C D E : TE} (h1 : ∀ K : AV → St → Prop, K a ⟨loc, os⟩ → A ⟨loc, os⟩ K) (h2 : ∀ K : AV → St → Prop, K b ⟨loc, os⟩ → B ⟨loc, os⟩ K) (h3 : ∀ K : AV → St → Prop, K c ⟨loc, os⟩ → C ⟨loc, os⟩ K) (h4 : ∀ K : AV → St → Prop, K d ⟨loc, os⟩ → D ⟨loc, os⟩ K) (h5 : ∀ K : AV → St → Prop, K e ⟨loc, os⟩ → E ⟨loc, os⟩ K)
    (hK : K (.obj os.length) ⟨loc, os ++ [.tup [a, b, c, d, e]]⟩) : bq [A, B, C, D, E] ⟨loc, os⟩ K := by
  have b5 : Nat.ble [a, b, c, d, e].length 1000 = true := rfl
  simp only [bq, aX]
  refine h1 _ (h2 _ (h3 _ (h4 _ (h5 _ ?_))))
  simp only [b5, cond_true]
  exact hK
theorem kW {x : Nat} {v : AV} (h : ag x loc = some v) : ∀ K : AV → St → Prop, K v ⟨loc, os⟩ → aa x ⟨loc, os⟩ K := fun K hK => by
  simp only [aa, h]; exact hK
theorem kX {v : AV} : ∀ K : AV → St → Prop, K v ⟨loc, os⟩ → ad v ⟨loc, os⟩ K := fun _ h => h
theorem qE {x D : Nat} {l : List AV} {E : TE} {v : AV} {k : AF → St → Prop} {r : List AO} (hx : ag x loc = some (.obj D)) (hD : os[D]? = some (.list l)) (hl : l.length ≤ 90000) (hE : ∀ K : AV → St → Prop, K v ⟨loc, os ++ r⟩ → E ⟨loc, os⟩ K) (hk : k .next ⟨loc, (os ++ r).set D (.list (l ++ [v]))⟩) :
    aK (aBM 2 bP (aa x) [E]) ⟨loc, os⟩ k := by
  exact ir (af hx) hE hD (aT hD) (by lia) _ hk
structure Aft (O : Nat → Prop) (os : List AO) (t : Nat) (T : Ts) (loc : List (Nat × AV)) (M : List Nat) (kd : Int) (e : Nat) (nm : List Nat) : Prop where
  tv : TV O os t T
  t : ag N.c loc = some (.obj t)
  w : ag N.x loc = some (.bool true)
  m : ag N.o loc = some (.str M)
  k : ag N.n loc = some (.int kd)
  rem : T.S.rem = fz (cY kd nm (M.drop e)).gone (M.drop e)
  pos : T.S.pos = gj (cY kd nm (M.drop e)).gone (bv (0, 0) (M.take e)) (M.drop e)
  cur : T.cur = (cY kd nm (M.drop e)).cur
  q : T.q = (M.take e).flatMap dY ++ (cY kd nm (M.drop e)).q
  st : T.st = (cY kd nm (M.drop e)).st
  he : e ≤ M.length
  hM : M.length ≤ 4000
  h13 : 13 ∉ M
  hsur : ∀ c ∈ M, c < 55296 ∨ 56319 < c
  hsm : ∀ c ∈ nm, c ≤ 0x10FFFF
  hkd : kd = 3 ∨ kd = 4
  hb : ∀ c r, M.drop e = c :: r → a8 c gq = true
  hnm : nm.length ≤ 5000
end
section
variable {O P : Nat → Prop} {os : List AO} {t u : Nat} {T U : Ts} {loc : List (Nat × AV)}
theorem ta {a b : AV} {K : AV → St → Prop} (hK : K (.obj os.length) ⟨loc, os ++ [.tup [a, b]]⟩) : bq [ad a, ad b] ⟨loc, os⟩ K := by
  have b5 : Nat.ble [a, b].length 1000 = true := rfl
  simp only [bq, aX, ad, b5, cond_true]
  exact hK
structure Bef (O : Nat → Prop) (os : List AO) (loc : List (Nat × AV)) (M : List Nat) (kd : Int) (e : Nat) (nm : List Nat) (D g : Nat) (l : List AV) : Prop where
  hD : os[D]? = some (.list l)
  told : Told os l ((M.take e).flatMap dY)
  hl : l.length ≤ 5000
  nD : ¬ O D
  due : ag N.y loc = some (.obj D)
  used : ag N.v loc = some (.int ((min (e + 1) M.length : Nat)))
  ender : ag N.R loc = some (.str ((M.drop e).take 1))
  tag : ag N.t loc = some (.obj g)
  hg : os[g]? = some (.tup (bX (.tag kd nm 0 false false)))
  ng : ¬ O g
  fo : ag N.p loc = some (.str fA)
  name : ag N.k loc = some (.str nm)
theorem kY {D : Nat} {l l2 : List AV} {q : List Tok} {os : List AO} {r : List AO} (hD : os[D]? = some (.list l)) (h : Told os l2 q) (X : List AV) : Told ((os ++ r).set D (.list X)) l2 q := h.keep fun j v hj => by
  rw [aM (aP hD hj (by simp)), dq (ax hj)]; exact hj
theorem o1 {M nm : List Nat} {kd : Int} {e D g : Nat} {l : List AV} (a : Aft O os t T loc M kd e nm) (b : Bef O os loc M kd e nm D g l) : ae _root_.Mine.T.lwF _root_.Mine.T.lw3 ⟨loc, os⟩ (fun fl _ => fl = .ret (.bool true)) := by
  have hlD := ax b.hD
  have hlg := ax b.hg
  have hM := a.hM
  have he := a.he
  have hql := j8 (M.take e)
  rw [List.length_take] at hql
  have gD : g ≠ D := fun q => by have h1 := b.hg; rw [q, b.hD] at h1; cases h1
  have ren := a.rem
  have rpo := a.pos
  have rcu := a.cur
  have req := a.q
  have res := a.st
  unfold _root_.Mine.T.lwF
  simp only [a7, br]
  cases hd : M.drop e with
  | nil =>
    have hee : e = M.length := by have := List.drop_eq_nil_iff.mp hd; lia
    have hen := b.ender
    rw [hd] at hen ren rpo rcu req res
    refine cz (cJ hen rfl) ?_
    first | refine sq5 ?_ | refine sq4 ?_ | refine sq3 ?_ | refine sq2 ?_ | refine sq1 ?_ | refine ar ?_ | skip
    refine aF fun K hK => qE (r := [.tup (bX (.plain 7 eEn))]) (v := .obj os.length) b.due b.hD (by have := b.hl; lia) (fun K hK => ta hK) (hK _ ?_)
    refine bJ ?_
    simp only [ad]
    have hD2 : ((os ++ [AO.tup (bX (.plain 7 eEn))]).set D (.list (l ++ [.obj os.length])))[D]? = some (.list (l ++ [.obj os.length])) := aQ (by simp; lia)
    have hg2 : ((os ++ [AO.tup (bX (.plain 7 eEn))]).set D (.list (l ++ [.obj os.length])))[g]? = some (.tup (bX (.tag kd nm 0 false false))) := by rw [aM gD.symm, dq hlg]; exact b.hg
    have hn2 : ((os ++ [AO.tup (bX (.plain 7 eEn))]).set D (.list (l ++ [.obj os.length])))[os.length]? = some (.tup (bX (.plain 7 eEn))) := by rw [aM (by lia), bf rfl]
    have tl := kY (r := [AO.tup (bX (.plain 7 eEn))]) b.hD b.told (l ++ [.obj os.length])
    have h2 : TV O ((os ++ [AO.tup (bX (.plain 7 eEn))]).set D (.list (l ++ [.obj os.length]))) t T := (a.tv.app [AO.tup (bX (.plain 7 eEn))]).other (P := fun j => j = D) (Kp.set rfl) fun j hj q => b.nD (q ▸ hj)
    generalize (os ++ [AO.tup (bX (.plain 7 eEn))]).set D (.list (l ++ [.obj os.length])) = os2 at *
    have tl2 : Tell os2 (l ++ [.obj os.length]) T.q := by rw [req]; exact (tl.snoc ⟨_, rfl, hn2⟩).tell
    have hmin : min (e + 1) M.length = e := by lia
    have hu := b.used
    rw [hmin] at hu
    have hcur : T.cur = some (.tag kd nm 0 false false) := rcu
    refine e7 (d := some (.tag kd nm 0 false false)) h2 (lq rfl a.t) (lq rfl a.w) (lq rfl a.m) (lq rfl hu) he (by lia) a.h13 a.hsur (lq rfl b.due) (cT hD2) tl2 (by rw [req, List.length_append]; show _ + 1 ≤ 5000; lia) rpo (ren.trans hd.symm) (am _ _ _) (by rw [res]; exact foD) (fun _ _ _ _ => trivial) (fun _ _ _ _ => trivial) (by rw [hcur]; exact oV _ _ rfl) (.inr ⟨g, kd, nm, 0, false, false, lq rfl b.tag, lq rfl a.k, hg2, b.ng, ax hg2, hcur, rfl, a.hkd, by have := a.hnm; lia⟩)
  | cons c r =>
    have hlt : e < M.length := by
      have := congrArg List.length hd
      rw [List.length_drop, List.length_cons] at this; lia
    have hen := b.ender
    rw [hd] at hen ren rpo rcu req res
    have hen : ag N.R loc = some (.str [c]) := hen
    have hmin : min (e + 1) M.length = e + 1 := by lia
    have hu := b.used
    rw [hmin] at hu
    have hd1 : M.drop (e + 1) = r := by rw [← List.drop_drop, hd]; rfl
    have ht1 : M.take (e + 1) = M.take e ++ [c] := by
      rw [List.take_add_one]
      have h1 : M[e]? = some c := by
        have := congrArg List.head? hd
        rw [List.head?_drop] at this; exact this
      rw [h1]; rfl
    have gone_ok : ∀ (o : One), o.gone = true → T.S.rem = fz o.gone (c :: r) → T.S.pos = gj o.gone (bv (0, 0) (M.take e)) (c :: r) → T.S.rem = M.drop (e + 1) ∧ T.S.pos = bv (0, 0) (M.take (e + 1)) := by
      intro o h1 h2 h3
      rw [h1] at h2 h3
      exact ⟨h2.trans hd1.symm, by rw [ht1, cW]; exact h3⟩
    refine bo (bU hen (by simp)) ?_
    have bad := a.hb c r hd
    by_cases c1 : c = 47
    · subst c1
      have hO : cY kd nm (47 :: r) = ⟨[], true, 591, some (.tag kd nm 0 false false)⟩ := rfl
      rw [hO] at ren rpo rcu req res
      obtain ⟨x1, x2⟩ := gone_ok ⟨[], true, 591, some (.tag kd nm 0 false false)⟩ rfl ren rpo
      first | refine sq5 ?_ | refine sq4 ?_ | refine sq3 ?_ | refine sq2 ?_ | refine sq1 ?_ | refine ar ?_ | skip
      refine cz (cJ hen rfl) ?_
      first | refine sq5 ?_ | refine sq4 ?_ | refine sq3 ?_ | refine sq2 ?_ | refine sq1 ?_ | refine ar ?_ | skip
      refine bJ ?_
      simp only [ad]
      have tl2 : Tell os l T.q := by rw [req, List.append_nil]; exact b.told.tell
      refine e7 (pre := gz) (f := gk) (d := some (.tag kd nm 0 false false)) a.tv (lq rfl a.t) (lq rfl a.w) (lq rfl a.m) (lq rfl hu) hlt (by lia) a.h13 a.hsur (lq rfl b.due) (cT b.hD) tl2 (by rw [req, List.append_nil]; lia) x2 x1 (am _ _ _) (by rw [res]; exact foS) (fun _ _ s q => ⟨s, kd, nm, q.trans rcu, a.hsm⟩) (fun _ _ s q => ⟨s, kd, nm, q, a.hsm⟩) (by rw [rcu]; exact cj fun r => sY r _ _ _ _ _) (.inr ⟨g, kd, nm, 0, false, false, lq rfl b.tag, lq rfl a.k, b.hg, b.ng, hlg, rcu, rfl, a.hkd, by have := a.hnm; lia⟩)
    first | refine sq5 ?_ | refine sq4 ?_ | refine sq3 ?_ | refine sq2 ?_ | refine sq1 ?_ | refine ar ?_ | skip
    refine bo (bU hen (by simpa using c1)) ?_
    first | refine sq5 ?_ | refine sq4 ?_ | refine sq3 ?_ | refine sq2 ?_ | refine sq1 ?_ | refine ar ?_ | skip
    by_cases c2 : c = 62
    · subst c2
      have hO : cY kd nm (62 :: r) = ⟨dH kd false ++ [ch kd nm false], true, 304, some (ch kd nm false)⟩ := rfl
      rw [hO] at ren rpo rcu req res
      obtain ⟨x1, x2⟩ := gone_ok ⟨dH kd false ++ [ch kd nm false], true, 304, some (ch kd nm false)⟩ rfl ren rpo
      have hQ : dH kd false = [] := by unfold dH; rw [if_neg (by simp)]
      rw [hQ] at req
      refine cz (cJ hen rfl) ?_
      first | refine sq5 ?_ | refine sq4 ?_ | refine sq3 ?_ | refine sq2 ?_ | refine sq1 ?_ | refine ar ?_ | skip
      refine bJ ?_
      refine kP b.name (by have := a.hnm; lia) a.hsm fun os1 k1 => ?_
      dsimp only
      have h1 := a.tv.other k1 fun _ _ q => q
      have hD1 := k1.at b.hD (fun q => q)
      have l1 : ag N.n (put N.k (.str (nm.map low)) loc) = some (.int kd) := lq rfl a.k
      have l2 : ag N.k (put N.k (.str (nm.map low)) loc) = some (.str (nm.map low)) := am _ _ _
      have l3 : ag N.y (put N.k (.str (nm.map low)) loc) = some (.obj D) := lq rfl b.due
      have l4 : ag N.c (put N.k (.str (nm.map low)) loc) = some (.obj t) := lq rfl a.t
      have l5 : ag N.x (put N.k (.str (nm.map low)) loc) = some (.bool true) := lq rfl a.w
      have l6 : ag N.o (put N.k (.str (nm.map low)) loc) = some (.str M) := lq rfl a.m
      have l7 : ag N.v (put N.k (.str (nm.map low)) loc) = some (.int ((e + 1 : Nat))) := lq rfl hu
      generalize put N.k (AV.str (nm.map low)) loc = loc1 at *
      refine bJ ?_
      have s1 : cQ tb os1 (.glob (.ref 48)) (.str [83, 116, 97, 114, 116, 84, 97, 103]) = some (.int 3) := rfl
      refine rh (a := .int kd) (b := .str (nm.map low)) (c := .int 0) (d := .str [110, 111]) (e := .bool (decide (kd = 3))) (kW l1) (kW l2) kX kX (fun K hK => ?_) ?_
      · refine mC ?_
        simp only [aa, l1, aU, ad, s1]
        have e1 : bz tb os1 .Eq (.int kd) (.int 3) = some (decide (kd = 3)) := rfl
        simp only [e1]
        exact hK
      have tg : AO.tup [.int kd, .str (nm.map low), .int 0, .str [110, 111], .bool (decide (kd = 3))] = .tup (bX (ch kd nm false)) := rfl
      rw [tg]
      dsimp only
      have l1 : ag N.n (put N.t (.obj os1.length) loc1) = some (.int kd) := lq rfl l1
      have l2 : ag N.t (put N.t (.obj os1.length) loc1) = some (.obj os1.length) := am _ _ _
      have l3 : ag N.y (put N.t (.obj os1.length) loc1) = some (.obj D) := lq rfl l3
      have l4 : ag N.c (put N.t (.obj os1.length) loc1) = some (.obj t) := lq rfl l4
      have l5 : ag N.x (put N.t (.obj os1.length) loc1) = some (.bool true) := lq rfl l5
      have l6 : ag N.o (put N.t (.obj os1.length) loc1) = some (.str M) := lq rfl l6
      have l7 : ag N.v (put N.t (.obj os1.length) loc1) = some (.int ((e + 1 : Nat))) := lq rfl l7
      generalize put N.t (AV.obj os1.length) loc1 = loc2 at *
      have hl1 := k1.1
      have hD2 : (os1 ++ [AO.tup (bX (ch kd nm false))])[D]? = some (.list l) := aT hD1
      have nO1 : ¬ O os1.length := fun q => Nat.lt_irrefl _ (h1.bnd _ q)
      refine aF fun K hK => qE (r := []) (v := .obj os1.length) l3 hD2 (by have := b.hl; lia) (fun K hK => by rw [List.append_nil] at hK; exact kW l2 _ hK) (hK _ ?_)
      rw [List.append_nil]
      refine bJ ?_
      simp only [ad]
      have hD3 : ((os1 ++ [AO.tup (bX (ch kd nm false))]).set D (.list (l ++ [.obj os1.length])))[D]? = some (.list (l ++ [.obj os1.length])) := aQ (by simp; lia)
      have hg3 : ((os1 ++ [AO.tup (bX (ch kd nm false))]).set D (.list (l ++ [.obj os1.length])))[os1.length]? = some (.tup (bX (ch kd nm false))) := by rw [aM (by lia), bf rfl]
      have tl := kY (r := [AO.tup (bX (ch kd nm false))]) hD1 (b.told.keep fun j v hj => k1.at hj (fun q => q)) (l ++ [.obj os1.length])
      have h2 : TV O ((os1 ++ [AO.tup (bX (ch kd nm false))]).set D (.list (l ++ [.obj os1.length]))) t T := (h1.app [AO.tup (bX (ch kd nm false))]).other (P := fun j => j = D) (Kp.set rfl) fun j hj q => b.nD (q ▸ hj)
      generalize (os1 ++ [AO.tup (bX (ch kd nm false))]).set D (.list (l ++ [.obj os1.length])) = os2 at *
      have tl2 : Tell os2 (l ++ [.obj os1.length]) T.q := by rw [req]; exact (tl.snoc ⟨_, rfl, hg3⟩).tell
      refine e7 (d := some (.tag kd (nm.map low) 0 false false)) h2 (lq rfl l4) (lq rfl l5) (lq rfl l6) (lq rfl l7) hlt (by lia) a.h13 a.hsur (lq rfl l3) (cT hD3) tl2 (by rw [req, List.length_append]; show _ + 1 ≤ 5000; lia) x2 x1 (am _ _ _) (by rw [res]; exact foD) (fun _ _ _ _ => trivial) (fun _ _ _ _ => trivial) (by rw [rcu]; exact oV _ _ rfl) (.inr ⟨os1.length, kd, nm.map low, 0, false, decide (kd = 3), lq rfl l2, lq rfl l1, hg3, nO1, ax hg3, rcu, rfl, a.hkd, by have := a.hnm; rw [List.length_map]; lia⟩)
    · refine bo (bU hen (by simpa using c2)) ?_
      simp only [br]
      have c3 : a8 c spL = true := (oZ bad).resolve_right fun q => q.elim c2 c1
      have hO : cY kd nm (c :: r) = ⟨[], true, 535, some (.tag kd nm 0 false false)⟩ := by unfold cY; dsimp only; rw [if_pos c3]
      rw [hO] at ren rpo rcu req res
      obtain ⟨x1, x2⟩ := gone_ok ⟨[], true, 535, some (.tag kd nm 0 false false)⟩ rfl ren rpo
      have tl2 : Tell os l T.q := by rw [req, List.append_nil]; exact b.told.tell
      refine e7 (pre := gz) (f := di) (d := some (.tag kd nm 0 false false)) a.tv a.t a.w a.m hu hlt (by lia) a.h13 a.hsur b.due (cT b.hD) tl2 (by rw [req, List.append_nil]; lia) x2 x1 b.fo (by rw [res]; exact foA) (fun _ _ s q => ⟨s, kd, nm, q.trans rcu, a.hsm⟩) (fun _ _ s q => ⟨s, kd, nm, q, a.hsm⟩) (by rw [rcu]; exact cj fun r => sZ r _ _ _ _ _) (.inr ⟨g, kd, nm, 0, false, false, b.tag, a.k, b.hg, b.ng, hlg, rcu, rfl, a.hkd, by have := a.hnm; lia⟩)
end
section
variable {O P : Nat → Prop} {os : List AO} {t u : Nat} {T U : Ts} {loc : List (Nat × AV)}
theorem ri (x : List Nat) (e : Nat) : sl (some (e : Int)) (some ((min (e + 1) x.length : Nat) : Int)) x = (x.drop e).take 1 := by
  rw [ki, List.take_eq_take_min, Nat.min_assoc, Nat.min_self, ← List.take_eq_take_min, List.drop_take, Nat.add_sub_cancel_left]
theorem kZ {M : List Nat} {e : Nat} (hm : ag N.o loc = some (.str M)) (he : ag N.f loc = some (.int e)) (hM : M.length ≤ 5000) (h : e ≤ M.length) : ∀ K : AV → St → Prop, K (.str (M.take e)) ⟨loc, os⟩ → dG (aa N.o) none (some (aa N.f)) ⟨loc, os⟩ K := fun K hK => by
  have b1 : Nat.ble M.length 1000000 = true := Nat.ble_eq_true_of_le (by lia)
  refine eE (af hm) fi (cV (af he)) (eF (u := none) (v := some e) b1) _ ?_
  rw [qR]
  exact hK
theorem o4 {M nm : List Nat} {kd : Int} {e : Nat} (a : Aft O os t T loc M kd e nm) (he : ag N.f loc = some (.int e)) (hnm : nm = (M.take e).map dX) : ae _root_.Mine.T.lwE _root_.Mine.T.lw3 ⟨loc, os⟩ (fun fl _ => fl = .ret (.bool true)) := by
  have hM := a.hM
  have hel := a.he
  unfold _root_.Mine.T.lwE
  simp only [a7, br]
  have b1 : Nat.ble M.length 1000000 = true := Nat.ble_eq_true_of_le (by lia)
  refine bJ ?_
  have hr : ∀ K : AV → St → Prop, K (.str nm) ⟨loc, os⟩ → gH [0] [65533] (dG (aa N.o) none (some (aa N.f))) ⟨loc, os⟩ K := by
    intro K hK
    unfold gH
    refine kZ a.m he (by lia) hel _ ?_
    have b2 : (Nat.ble (M.take e).length 100000 && Nat.ble [65533].length 100 && !decide (([0] : List Nat) = [65533])) = true := by
      rw [Nat.ble_eq_true_of_le (show (M.take e).length ≤ 100000 by rw [List.length_take]; lia)]; rfl
    simp only [b2, cond_true, kC]
    rw [hnm] at hK
    exact hK
  refine hr _ ?_
  dsimp only
  have l1 : ag N.o (put N.k (.str nm) loc) = some (.str M) := lq rfl a.m
  have l2 : ag N.f (put N.k (.str nm) loc) = some (.int e) := lq rfl he
  have l3 : ag N.n (put N.k (.str nm) loc) = some (.int kd) := lq rfl a.k
  have l4 : ag N.c (put N.k (.str nm) loc) = some (.obj t) := lq rfl a.t
  have l5 : ag N.x (put N.k (.str nm) loc) = some (.bool true) := lq rfl a.w
  have l6 : ag N.k (put N.k (.str nm) loc) = some (.str nm) := am _ _ _
  generalize put N.k (AV.str nm) loc = loc1 at *
  refine bJ ?_
  refine oY (kZ l1 l2 (by lia) hel) (by rw [List.length_take]; lia) fun os1 D l k1 hD hDl told hll => ?_
  dsimp only
  have h1 := a.tv.other k1 fun _ _ q => q
  have nD : ¬ O D := fun q => by have := a.tv.bnd D q; lia
  have l1 : ag N.o (put N.y (.obj D) loc1) = some (.str M) := lq rfl l1
  have l2 : ag N.f (put N.y (.obj D) loc1) = some (.int e) := lq rfl l2
  have l3 : ag N.n (put N.y (.obj D) loc1) = some (.int kd) := lq rfl l3
  have l4 : ag N.c (put N.y (.obj D) loc1) = some (.obj t) := lq rfl l4
  have l5 : ag N.x (put N.y (.obj D) loc1) = some (.bool true) := lq rfl l5
  have l6 : ag N.k (put N.y (.obj D) loc1) = some (.str nm) := lq rfl l6
  have l7 : ag N.y (put N.y (.obj D) loc1) = some (.obj D) := am _ _ _
  generalize put N.y (AV.obj D) loc1 = loc2 at *
  refine bJ ?_
  have eu : (if ((M.length : Nat) : Int) < (e : Int) + 1 then ((M.length : Nat) : Int) else (e : Int) + 1) = ((min (e + 1) M.length : Nat) : Int) := by split <;> lia
  refine f9 (bI (dC (af l2) aA rfl) (bi (jO (af l1) (by lia)))) ⟨_, _, rfl, ?_⟩
  rw [eu]
  dsimp only
  have l1 : ag N.o (put N.v (.int ((min (e + 1) M.length : Nat))) loc2) = some (.str M) := lq rfl l1
  have l2 : ag N.f (put N.v (.int ((min (e + 1) M.length : Nat))) loc2) = some (.int e) := lq rfl l2
  have l3 : ag N.n (put N.v (.int ((min (e + 1) M.length : Nat))) loc2) = some (.int kd) := lq rfl l3
  have l4 : ag N.c (put N.v (.int ((min (e + 1) M.length : Nat))) loc2) = some (.obj t) := lq rfl l4
  have l5 : ag N.x (put N.v (.int ((min (e + 1) M.length : Nat))) loc2) = some (.bool true) := lq rfl l5
  have l6 : ag N.k (put N.v (.int ((min (e + 1) M.length : Nat))) loc2) = some (.str nm) := lq rfl l6
  have l7 : ag N.y (put N.v (.int ((min (e + 1) M.length : Nat))) loc2) = some (.obj D) := lq rfl l7
  have l8 : ag N.v (put N.v (.int ((min (e + 1) M.length : Nat))) loc2) = some (.int ((min (e + 1) M.length : Nat))) := am _ _ _
  generalize put N.v (AV.int ((min (e + 1) M.length : Nat))) loc2 = loc3 at *
  refine bJ ?_
  refine eE (af l1) (cV (af l2)) (cV (af l8)) (eF (u := some _) (v := some _) b1) _ ?_
  rw [ri]
  refine bJ ?_
  refine rh (a := .int kd) (b := .str nm) (c := .int 0) (d := .str [110, 111]) (e := .bool false) (kW (lq rfl l3)) (kW (lq rfl l6)) kX kX kX ?_
  have tg : AO.tup [.int kd, .str nm, .int 0, .str [110, 111], .bool false] = .tup (bX (.tag kd nm 0 false false)) := rfl
  rw [tg]
  refine bJ ?_
  simp only [ad]
  have lk : ∀ {n : Nat} {v : AV}, N.p ≠ n → N.t ≠ n → N.R ≠ n → ag n loc3 = some v → ag n (put N.p (.str [97, 116, 116, 114, 105, 98, 117, 116, 101, 115]) (put N.t (.obj os1.length) (put N.R (.str (List.take 1 (List.drop e M))) loc3))) = some v := fun a b c d => bk a (bk b (bk c d))
  refine o1 (D := D) (g := os1.length) (l := l) (M := M) (nm := nm) (kd := kd) (e := e) (O := O) (t := t) (T := T) { a with tv := h1.app _, t := lk (by decide) (by decide) (by decide) l4, w := lk (by decide) (by decide) (by decide) l5, m := lk (by decide) (by decide) (by decide) l1, k := lk (by decide) (by decide) (by decide) l3 } ⟨aT hDl, told.keep fun j v hj => aT hj, by rw [List.length_take] at hll; lia, nD, lk (by decide) (by decide) (by decide) l7, lk (by decide) (by decide) (by decide) l8, lq rfl (lq rfl (am _ _ _)), lq rfl (am _ _ _), bf rfl, fun q => Nat.lt_irrefl _ (h1.bnd _ q), am _ _ _, lk (by decide) (by decide) (by decide) l6⟩
theorem o5 {M : List Nat} {kd : Int} {c : Nat} {r0 : List Nat} (h : TV O os t T) (hMc : M = c :: r0) (hc : a8 c alL = true) (ht : ag N.c loc = some (.obj t)) (hw : ag N.x loc = some (.bool true)) (hm : ag N.o loc = some (.str M)) (hk : ag N.n loc = some (.int kd)) (hfi : ag N.B loc = some (.str [c]))
    (hM : M.length ≤ 4000) (h13 : 13 ∉ M) (hsur : ∀ c ∈ M, c < 55296 ∨ 56319 < c) (hsm : ∀ c ∈ M, c ≤ 0x10FFFF) (hkd : kd = 3 ∨ kd = 4)
    (r1 : T.S.rem = M.drop 1) (r2 : T.S.pos = bv (0, 0) (M.take 1)) (r3 : T.cur = some (.tag kd [c] 0 false false)) (r4 : T.q = []) (r5 : T.sep = true) (r6 : T.st = 367) : ae _root_.Mine.T.lwA _root_.Mine.T.lw3 ⟨loc, os⟩ (fun fl _ => fl = .ret (.bool true)) := by
  have hc0 : c ≠ 0 := by rintro rfl; cases hc
  have hf : (M.take 1).map dX = [c] := by rw [hMc]; simp [dX, hc0]
  have hE : (M.take 1).flatMap dY = [] := by rw [hMc]; simp [dY, hc0]
  unfold _root_.Mine.T.lwA
  simp only [a7, br]
  refine bJ ?_
  simp only [ad]
  refine aF fun K hK => p9 (lq rfl hm) (am _ _ _) (by rw [hMc]; simp) (by lia) fun loc1 e ex le e1 e2 e3 e4 => hK _ ?_
  have l1 : ag N.c loc1 = some (.obj t) := ex.at (by decide) (lq rfl ht)
  have l2 : ag N.x loc1 = some (.bool true) := ex.at (by decide) (lq rfl hw)
  have l3 : ag N.o loc1 = some (.str M) := ex.at (by decide) (lq rfl hm)
  have l4 : ag N.n loc1 = some (.int kd) := ex.at (by decide) (lq rfl hk)
  have l5 : ag N.B loc1 = some (.str [c]) := ex.at (by decide) (lq rfl hfi)
  refine gI (kT (iM l2 ?_))
  simp only [cond_false]
  refine kT (o0 h l1 r4 ?_)
  simp only [cond_false]
  refine kT (dn ?_)
  refine eJ h l1 r3 ?_
  refine rh (a := .int kd) (b := .str [c]) (c := .int 0) (d := .str [110, 111]) (e := .bool false) (kW l4) (kW l5) kX kX kX ?_
  have tg : AO.tup [.int kd, .str [c], .int 0, .str [110, 111], .bool false] = .tup (bX (.tag kd [c] 0 false false)) := rfl
  rw [tg]
  have e5 : bz tb (os ++ [AO.tup (bX (.tag kd [c] 0 false false))] ++ [AO.tup (bX (.tag kd [c] 0 false false))]) .NotEq (.obj os.length) (.obj (os ++ [AO.tup (bX (.tag kd [c] 0 false false))]).length) = some false :=
    lF (gn (n := 3) (cF (aT (bf rfl))) (cF (bf rfl)) (gp _))
  simp only [e5, cond_false, aB, br]
  have h1 := (h.app [AO.tup (bX (.tag kd [c] 0 false false))]).app [AO.tup (bX (.tag kd [c] 0 false false))]
  generalize os ++ [AO.tup (bX (.tag kd [c] 0 false false))] ++ [AO.tup (bX (.tag kd [c] 0 false false))] = os1 at *
  refine aF fun K hK => ?_
  have ce : (e : Int).toNat = e := Int.toNat_natCast e
  simp only [l0, aa, le, ce]
  refine ⟨by lia, by lia, ?_⟩
  obtain ⟨n, rfl⟩ : ∃ n, e = n + 1 := ⟨e - 1, by lia⟩
  refine rg (kd := kd) (M := M) (loc0 := loc1) (t := t) (by lia) h13 hsm e2 e3 e4 (fun O' os' loc' T' h' ex' w' a1 a2 a3 a4 a5 => hK _ ?_) n 0 loc1 _ O T (by lia) (h1.app _) l1 (Ext.refl _ _) r1 r2 (by rw [r3, hf]) (by rw [r4, hE]) r5 (fun _ => r6) (bf rfl) (fun q => Nat.lt_irrefl _ (h1.bnd _ q))
  refine o4 (nm := (M.take (n + 1)).map dX) (e := n + 1) (kd := kd) ⟨h', ex'.at (by decide) l1, w', ex'.at (by decide) l3, ex'.at (by decide) l4, a1, a2, a3, a4, a5, e2, hM, h13, hsur, mG hsm _, hkd, e4, by rw [List.length_map, List.length_take]; lia⟩ (ex'.at (by decide) le) rfl
end
theorem qe (c : Nat) (xs : List (List Nat)) : fw xs + xs.length ≤ (joi [c] xs).length + 1 := by
  unfold joi Txt.join
  induction xs with
  | nil => exact Nat.zero_le _
  | cons a r ih =>
    cases r with
    | nil =>
      have : (Builtin.Str.glued (txt [c]) ([a].map txt)).cps.toList = a := rfl
      rw [this]
      show a.length + 0 + 1 ≤ _
      lia
    | cons b r =>
      rw [List.map_cons, List.map_cons, fK, List.length_append, List.length_append]
      rw [List.map_cons] at ih
      have h1 : (txt a).cps.toList.length = a.length := rfl
      have h2 : (txt [c]).cps.toList.length = 1 := rfl
      have h3 : fw (a :: b :: r) = a.length + fw (b :: r) := rfl
      rw [h1, h2, h3]
      simp only [List.length_cons] at ih ⊢
      lia
noncomputable def pcs : List (List Nat) := [[97], [66], [47], [62], [32], [0], [90], [233], [45], [13], [63], [33], [120], [10], [60], [49], [13, 10], [8490], [9], [72], [45, 45], [61], [38], [100, 111, 99, 116, 121, 112, 101], [12], [39], [119987], [304], [112, 62], [113, 47], [65533], [75]]
noncomputable def dt (n : Int) : List Nat := pcs.getD (n.fmod 32).toNat []
theorem rj : ∀ p ∈ pcs, p.length ≤ 7 ∧ ∀ c ∈ p, (c < 55296 ∨ 56319 < c) ∧ c ≤ 0x10FFFF := by decide
theorem k7 (n : Int) : (dt n).length ≤ 7 ∧ ∀ c ∈ dt n, (c < 55296 ∨ 56319 < c) ∧ c ≤ 0x10FFFF := by
  unfold dt
  rw [List.getD_eq_getElem?_getD]
  cases h : pcs[(n.fmod 32).toNat]? with
  | none => exact ⟨Nat.zero_le _, fun c hc => by cases hc⟩
  | some p => exact rj p (List.mem_of_getElem? h)
theorem o6 (os : List AO) (n : Int) : cQ tb os (.glob (.ref 767)) (.int (n.fmod 32)) = some (.str (dt n)) := by
  have h0 : 0 ≤ n.fmod 32 := Int.fmod_nonneg_of_pos _ (by decide)
  have h1 : n.fmod 32 < 32 := Int.fmod_lt_of_pos _ (by decide)
  have hs : bt tb os (.glob (.ref 767)) = some (false, pcs.map .str) := rfl
  have hl : (pcs.map AV.str).length = 32 := rfl
  have hb : Nat.ble (pcs.map AV.str).length 1000000 = true := rfl
  have hi : idx (n.fmod 32) (pcs.map AV.str).length = some (n.fmod 32).toNat := by
    have e := ff (i := (n.fmod 32).toNat) (n := (pcs.map AV.str).length) (by rw [hl]; lia)
    rwa [Int.toNat_of_nonneg h0] at e
  have hg : (pcs.map AV.str)[(n.fmod 32).toNat]? = some (.str (dt n)) := by
    have hlt : (n.fmod 32).toNat < pcs.length := by
      have : pcs.length = 32 := rfl
      lia
    rw [List.getElem?_map, List.getElem?_eq_getElem hlt]
    unfold dt
    rw [List.getD_eq_getElem?_getD, List.getElem?_eq_getElem hlt]; rfl
  unfold cQ
  simp only [hs, hb, cond_true, hi, hg]
noncomputable def eK (ns : List Int) : List Nat := (((ns.drop 1).take 16).map dt).flatten
theorem j9 : ∀ l : List Int, ((l.map dt).flatten).length ≤ 7 * l.length
  | [] => Nat.le_refl _
  | n :: r => by
    rw [List.map_cons, List.flatten_cons, List.length_append, List.length_cons]
    have := j9 r
    have := (k7 n).1
    lia
theorem o8 (ns : List Int) : (eK ns).length ≤ 112 := by
  have h1 := j9 ((ns.drop 1).take 16)
  have h2 : ((ns.drop 1).take 16).length ≤ 16 := by rw [List.length_take]; lia
  unfold eK
  lia
theorem o9 {ns : List Int} {c : Nat} (h : c ∈ eK ns) : (c < 55296 ∨ 56319 < c) ∧ c ≤ 0x10FFFF := by
  obtain ⟨p, hp, hc⟩ := List.mem_flatten.mp h
  obtain ⟨n, _, rfl⟩ := List.mem_map.mp hp
  exact (k7 n).2 c hc
section
variable {O P : Nat → Prop} {os : List AO} {t u : Nat} {T U : Ts} {loc : List (Nat × AV)}
theorem nr {a : Nat} {ns : List Int} {k : AV → St → Prop} (hs : ag N.I loc = some (.glob (.ref a))) (h : ∀ os', Kp (fun _ => False) os os' → k (.str (eK ns)) ⟨loc, os'⟩) :
    aBM 1 d6 (ad (.str [])) [(dK tb (me a ns) N.aq (fun C j => (aB true)) (fun C j => (aU tb (ad (.glob (.ref 767))) (cA .Mod (cN C j N.aq) (ad (.int 32))))))] ⟨loc, os⟩ k := by
  have hls : (os ++ [AO.list (((ns.drop 1).take 16).map .int)])[os.length]? = some (.list (((ns.drop 1).take 16).map .int)) := bf rfl
  unfold eK at h
  have h16 : ((ns.drop 1).take 16).length ≤ 16 := by rw [List.length_take]; lia
  refine mf aA rfl (gU (os := os ++ [AO.list (((ns.drop 1).take 16).map .int)]) (loc := loc) (src := .obj os.length) (els := ((ns.drop 1).take 16).map .int) (fun _ i l => l = (((ns.drop 1).take 16).take i).map fun n => AV.str (dt n)) (fun _ hK => ⟨hs, hK⟩) (jg hls) (fun o kp i hi => qs (kp.at hls id) hi) (by rw [List.length_map]; lia) (fun _ => rfl) (fun _ _ _ _ _ q => q) ?_ ?_)
  · intro i b l o C vars K1 K2 ha _ hc hl hR _ hK
    generalize (ns.drop 1).take 16 = y at ha hR hK hc ⊢
    rw [List.getElem?_map] at ha
    obtain ⟨c, hic, rfl⟩ := Option.map_eq_some_iff.mp ha
    exact oG (ey aA (dC (gR hc hl) aA rfl) (o6 o c) _ (hK _ o (Kp.refl _ _) (by rw [hR, List.take_add_one, hic, List.map_append]; rfl)))
  · intro l o kp hD hR
    refine jZ (x := []) (ps := ((ns.drop 1).take 16).map dt) (hD.trans ?_) ?_ ?_
    · rw [hR, List.length_map, List.take_length, List.map_map]; rfl
    · have := j9 ((ns.drop 1).take 16)
      rw [fL]; show _ + _ * 0 ≤ _; lia
    · rw [jY]; exact h o ((Kp.app _ _ _).trans kp)
theorem iO {x y : List Nat} {E : TE} {k : AV → St → Prop} (hE : ∀ K : AV → St → Prop, (∀ os', Kp (fun _ => False) os os' → K (.str x) ⟨loc, os'⟩) → E ⟨loc, os⟩ K) (hx : x.length ≤ 5000) (hy : y ≠ []) (hl : (joi [10] (spl x y)).length ≤ 5000)
    (hk : ∀ os', Kp (fun _ => False) os os' → k (.str (joi [10] (spl x y))) ⟨loc, os'⟩) : aBM 1 d6 (ad (.str [10])) [(aBM 1 jH E [ad (.str y)])] ⟨loc, os⟩ k := by
  have hj := qe 10 (spl x y)
  exact mf aA rfl (hE (fun a st1 => aBM 1 jH (ad a) [ad (.str y)] st1 fun b st2 => d6 [.str [10], b] st2.objs fun v os => k v ⟨st2.loc, os⟩) fun os1 k1 => kz aA rfl (bi aA) ⟨_, _, rfl, by lia, hy, jZ (bf rfl) (by rw [List.length_singleton, Nat.mul_one]; lia) (hk _ (k1.trans (Kp.app _ _ _)))⟩)
theorem nt {x : List Nat} {k : AV → St → Prop} (hx : ag N.A loc = some (.str x)) (hl : x.length ≤ 5000) (hk : ∀ os', Kp (fun _ => False) os os' → k (.str (bp x)) ⟨loc, os'⟩) :
    aBM 1 d6 (ad (.str [10])) [(aBM 1 jH (aBM 1 d6 (ad (.str [10])) [(aBM 1 jH (aa N.A) [(ad (.str [13, 10]))])]) [(ad (.str [13]))])] ⟨loc, os⟩ k := by
  have e1 : joi [10] (spl x [13, 10]) = dg x := by
    rw [jT x _ _ (by simp) (jU _ _ (by decide) _) (by decide +kernel)]
    exact gx x.length x 0 (Nat.le_refl _)
  have h1 := iC x
  have h2 := gc x
  refine iO (x := dg x) (y := [13]) (fun K hK => ?_) (by lia) (by simp) ?_ fun os' k' => ?_
  · refine iO (x := x) (y := [13, 10]) (fun K hK => kW hx _ (hK os (Kp.refl _ _))) hl (by simp) (by rw [e1]; lia) fun os' k' => ?_
    rw [e1]; exact hK os' k'
  · rw [← e1, kA]; lia
  · rw [← e1, kA]; exact hk os' k'
end
noncomputable def T.lw2 : TS :=
  (ae (aR N.n (dw (bY tb (cA .Mod (aa N.D) (ad (.int 2)))) (aU tb (ad (.glob (.ref 48))) (ad (.str [69, 110, 100, 84, 97, 103]))) (aU tb (ad (.glob (.ref 48))) (ad (.str [83, 116, 97, 114, 116, 84, 97, 103])))))
  (ae (aR N.c (hW 762 F.initHTMLTokenizer [(aa N.A)]))
  (ae (ah N.g (cx []) (aa N.c))
  (ae (aR N.x (dw (bY tb (cA .Mod (aa N.D) (ad (.int 2)))) (aI N.ap 360 F.closeTagOpenState (aa N.c) []) (aI N.aO 353 F.tagOpenState (aa N.c) [])))
  (ae (aR N.B (dG (aa N.o) none (some (ad (.int 1)))))
  (ae (aR N.t (ad .none))
  (ae (aIf (du (aq tb .NotEq (aa N.B) (ad (.str []))) (du (aq tb .In (aa N.B) (ad (.str [97, 98, 99, 100, 101, 102, 103, 104, 105, 106, 107, 108, 109, 110, 111, 112, 113, 114, 115, 116, 117, 118, 119, 120, 121, 122, 65, 66, 67, 68, 69, 70, 71, 72, 73, 74, 75, 76, 77, 78, 79, 80, 81, 82, 83, 84, 85, 86, 87, 88, 89, 90]))) (aB true))) _root_.Mine.T.lwA _root_.Mine.T.lwB)
  _root_.Mine.T.lw3)))))))
theorem rk (a : Nat) (ns : List Int) : _root_.Mine.T.law a ns = (ae (aR N.D (dw (ma a ns) (md a ns) (ad (.int 0))))
  (ae (aR N.A (aBM 1 d6 (ad (.str [])) [(dK tb (me a ns) N.aq (fun C j => (aB true)) (fun C j => (aU tb (ad (.glob (.ref 767))) (cA .Mod (cN C j N.aq) (ad (.int 32))))))]))
  (ae (aR N.o (aBM 1 d6 (ad (.str [10])) [(aBM 1 jH (aBM 1 d6 (ad (.str [10])) [(aBM 1 jH (aa N.A) [(ad (.str [13, 10]))])]) [(ad (.str [13]))])]))
  _root_.Mine.T.lw2))) := rfl
section
variable {O P : Nat → Prop} {os : List AO} {t u : Nat} {T U : Ts} {loc : List (Nat × AV)}
theorem rl (M : List Nat) : sl none (some (1 : Int)) M = M.take 1 := by
  cases M with
  | nil => rfl
  | cons c r => exact qR (c :: r) 1
theorem pa {x : List Nat} {wy : Int} (hx : ag N.A loc = some (.str x)) (hm : ag N.o loc = some (.str (bp x))) (hy : ag N.D loc = some (.int wy)) (hl : x.length ≤ 4000) (hs : ∀ c ∈ x, (c < 55296 ∨ 56319 < c) ∧ c ≤ 0x10FFFF) : _root_.Mine.T.lw2 ⟨loc, os⟩ (fun fl _ => fl = .ret (.bool true)) := by
  unfold _root_.Mine.T.lw2
  obtain ⟨b, hb⟩ : ∃ b, (wy.fmod 2 != 0) = b := ⟨_, rfl⟩
  have hml := gc x
  have h13 := pY x
  have hsur : ∀ c ∈ bp x, c < 55296 ∨ 56319 < c := fun c hc => (kD hc).elim (fun q => by lia) fun q => (hs c q).1
  have hsm : ∀ c ∈ bp x, c ≤ 0x10FFFF := fun c hc => (kD hc).elim (fun q => by lia) fun q => (hs c q).2
  refine bJ (gE (mE hy ?_))
  rw [hb]
  obtain ⟨kd, hkd⟩ : ∃ kd : Int, kd = if b then 4 else 3 := ⟨_, rfl⟩
  have hk34 : kd = 3 ∨ kd = 4 := by rw [hkd]; cases b <;> simp
  have s1 : cQ tb os (.glob (.ref 48)) (.str [83, 116, 97, 114, 116, 84, 97, 103]) = some (.int 3) := rfl
  have s2 : cQ tb os (.glob (.ref 48)) (.str [69, 110, 100, 84, 97, 103]) = some (.int 4) := rfl
  have kin : ∀ K : AV → St → Prop, K (.int kd) ⟨loc, os⟩ → (bif b then (aU tb (ad (.glob (.ref 48))) (ad (.str [69, 110, 100, 84, 97, 103]))) ⟨loc, os⟩ K else (aU tb (ad (.glob (.ref 48))) (ad (.str [83, 116, 97, 114, 116, 84, 97, 103]))) ⟨loc, os⟩ K) := by
    intro K hK
    subst hkd
    cases b with
    | true => simp only [cond_true, aU, ad, s2]; exact hK
    | false => simp only [cond_false, aU, ad, s1]; exact hK
  refine kin _ ?_
  dsimp only
  have hx := bk (v := AV.int kd) (show N.n ≠ N.A by decide) hx
  have hm := bk (v := AV.int kd) (show N.n ≠ N.o by decide) hm
  have hy := bk (v := AV.int kd) (show N.n ≠ N.D by decide) hy
  have hk : ag N.n (put N.n (AV.int kd) loc) = some (.int kd) := am _ _ _
  generalize put N.n (AV.int kd) loc = loc1 at *
  refine bJ ?_
  simp only [hW, aX, aa, hx]
  refine gi (bf rfl) (by lia) (fun c hc => (hs c hc).1) fun Os os1 s l4 m fr => ?_
  dsimp only
  have hx := bk (v := AV.obj os.length) (show N.c ≠ N.A by decide) hx
  have hm := bk (v := AV.obj os.length) (show N.c ≠ N.o by decide) hm
  have hy := bk (v := AV.obj os.length) (show N.c ≠ N.D by decide) hy
  have hk := bk (v := AV.obj os.length) (show N.c ≠ N.n by decide) hk
  have ht : ag N.c (put N.c (AV.obj os.length) loc1) = some (.obj os.length) := am _ _ _
  generalize put N.c (AV.obj os.length) loc1 = loc2 at *
  refine aF fun K hK => jk fr (by simp) (by simp) ht fun O os2 qi k2 _ h2 => hK _ ?_
  generalize os.length = t at *
  refine bJ (gE (mE hy ?_))
  rw [hb]
  have go : ∀ K : AV → St → Prop, (∀ O' os' T', TV O' os' t T' → T'.S.rem = fz ((if b then bF else cq) (bp x)).gone (bp x) → T'.S.pos = gj ((if b then bF else cq) (bp x)).gone (0, 0) (bp x) → T'.cur = p6 ((if b then bF else cq) (bp x)).cur none → T'.q = ((if b then bF else cq) (bp x)).q → T'.st = ((if b then bF else cq) (bp x)).st → T'.sep = true → K (.bool true) ⟨loc2, os'⟩) →
      (bif b then (aI N.ap 360 F.closeTagOpenState (aa N.c) []) ⟨loc2, os2⟩ K else (aI N.aO 353 F.tagOpenState (aa N.c) []) ⟨loc2, os2⟩ K) := by
    intro K hK
    cases b with
    | true => exact gZ h2 ht mm2 (fun _ _ _ _ _ => rfl) (gC _ _ _ _ _ h2 rfl rfl fun O' os' T' g h' a1 a2 a3 a4 a5 a6 => hK O' os' T' h' a1 a2 a3 a4 a5 a6)
    | false => exact gZ h2 ht md2 (fun _ _ _ _ _ => rfl) (lE _ _ _ _ _ h2 rfl rfl fun O' os' T' g h' a1 a2 a3 a4 a5 a6 => hK O' os' T' h' a1 a2 a3 a4 a5 a6)
  refine go _ fun O3 os3 T3 h3 a1 a2 a3 a4 a5 a6 => ?_
  dsimp only
  have hm := bk (v := AV.bool true) (show N.x ≠ N.o by decide) hm
  have hy := bk (v := AV.bool true) (show N.x ≠ N.D by decide) hy
  have hk := bk (v := AV.bool true) (show N.x ≠ N.n by decide) hk
  have ht := bk (v := AV.bool true) (show N.x ≠ N.c by decide) ht
  have hw : ag N.x (put N.x (AV.bool true) loc2) = some (.bool true) := am _ _ _
  generalize put N.x (AV.bool true) loc2 = loc3 at *
  have b1 : Nat.ble (bp x).length 1000000 = true := Nat.ble_eq_true_of_le (by lia)
  refine bJ ?_
  refine eE (af hm) fi (cV aA) (eF (u := none) (v := some 1) b1) _ ?_
  rw [rl]
  refine bJ ?_
  simp only [ad]
  have lk : ∀ {n : Nat} {v : AV}, N.t ≠ n → N.B ≠ n → ag n loc3 = some v → ag n (put N.t .none (put N.B (.str ((bp x).take 1)) loc3)) = some v := fun a b c => bk a (bk b c)
  have hm := lk (by decide) (by decide) hm
  have hy := lk (by decide) (by decide) hy
  have hk := lk (by decide) (by decide) hk
  have ht := lk (by decide) (by decide) ht
  have hw := lk (by decide) (by decide) hw
  have hf : ag N.B (put N.t .none (put N.B (.str ((bp x).take 1)) loc3)) = some (.str ((bp x).take 1)) := lq rfl (am _ _ _)
  have hg : ag N.t (put N.t .none (put N.B (.str ((bp x).take 1)) loc3)) = some .none := am _ _ _
  clear lk
  generalize put N.t AV.none (put N.B (.str ((bp x).take 1)) loc3) = loc4 at *
  generalize bp x = M at *
  have other : (∀ c r, M = c :: r → a8 c alL = false) → ae _root_.Mine.T.lwB _root_.Mine.T.lw3 ⟨loc4, os3⟩ (fun fl _ => fl = .ret (.bool true)) := by
    intro hal
    refine oW h3 hb ht hw hm (by lia) h13 hsur hy hf hg hal ?_ a1 a2 a3 a4 a5
    rintro hgo rfl
    cases b <;> cases hgo
  refine gI (kU (qB hf _ ?_))
  cases hM : M with
  | nil =>
    have d0 : decide (([] : List Nat).take 1 = []) = true := rfl
    simp only [d0, Bool.not_true, cond_false]
    exact other fun c r q => by rw [hM] at q; cases q
  | cons c r =>
    have d0 : decide ((c :: r).take 1 = []) = false := decide_eq_false (by simp)
    simp only [d0, Bool.not_false, cond_true]
    rw [hM] at hf
    have hf : ag N.B loc4 = some (.str [c]) := hf
    have hin : bz tb os3 .In (.str [c]) (.str [97, 98, 99, 100, 101, 102, 103, 104, 105, 106, 107, 108, 109, 110, 111, 112, 113, 114, 115, 116, 117, 118, 119, 120, 121, 122, 65, 66, 67, 68, 69, 70, 71, 72, 73, 74, 75, 76, 77, 78, 79, 80, 81, 82, 83, 84, 85, 86, 87, 88, 89, 90]) = some (a8 c alL) := qD os3 c alL
    refine kU (dn ?_)
    simp only [aa, hf, ad, hin]
    cases hc : a8 c alL with
    | false =>
      simp only [cond_false]
      exact other fun d s q => by rw [hM] at q; cases q; exact hc
    | true =>
      simp only [cond_true, aB]
      have hO : (if b then bF else cq) M = ⟨[], true, 367, some (.tag kd [c] 0 false false)⟩ := by
        rw [hM]
        cases b with
        | true => subst hkd; show bF (c :: r) = _; unfold bF; dsimp only; rw [if_pos hc]; rfl
        | false =>
          subst hkd
          show cq (c :: r) = _
          unfold cq
          dsimp only
          rw [if_neg (by rintro rfl; cases hc), if_neg (by rintro rfl; cases hc), if_pos hc]; rfl
      rw [hO] at a1 a2 a3 a4 a5
      refine o5 h3 hM hc ht hw hm hk hf (by lia) h13 hsur hsm hk34 ?_ ?_ a3 a4 a6 a5
      · rw [a1, hM]; rfl
      · rw [a2, hM]; rfl
theorem pb (a : Nat) (ns : List Int) : _root_.Mine.T.law a ns ⟨[(N.I, .glob (.ref a))], []⟩ (fun fl _ => fl = .ret (.bool true)) := by
  rw [rk]
  refine bJ (gE ?_)
  have hsc : ag N.I [(N.I, AV.glob (.ref a))] = some (.glob (.ref a)) := aE _ _ _
  have way : ∀ K : AV → St → Prop, (∀ wy, K (.int wy) ⟨[(N.I, .glob (.ref a))], []⟩) → (ma a ns) ⟨[(N.I, .glob (.ref a))], []⟩ fun b st' => bif b then md a ns st' K else ad (.int 0) st' K := by
    intro K hK
    refine ⟨hsc, ?_⟩
    cases ns with
    | nil => exact hK 0
    | cons n r => exact ⟨hsc, hK n⟩
  refine way _ fun wy => ?_
  dsimp only
  have hs1 : ag N.I (put N.D (.int wy) [(N.I, AV.glob (.ref a))]) = some (.glob (.ref a)) := lq rfl hsc
  have hy : ag N.D (put N.D (.int wy) [(N.I, AV.glob (.ref a))]) = some (.int wy) := am _ _ _
  generalize put N.D (.int wy) [(N.I, AV.glob (.ref a))] = loc1 at *
  refine bJ (nr hs1 fun os1 _ => ?_)
  dsimp only
  have hx : ag N.A (put N.A (.str (eK ns)) loc1) = some (.str (eK ns)) := am _ _ _
  have hy := bk (v := AV.str (eK ns)) (show N.A ≠ N.D by decide) hy
  generalize put N.A (AV.str (eK ns)) loc1 = loc2 at *
  have hl := o8 ns
  refine bJ (nt hx (by lia) fun os2 _ => ?_)
  dsimp only
  exact pa (lq rfl hx) (am _ _ _) (lq rfl hy) (by lia) fun c hc => o9 hc
end
end Mine
end
section
open PySem PySem.W PySem.Calls PyProof.Rows
namespace Mine
noncomputable def pd : Value → PySem.Tok
  | .int _ t => t
  | .str _ t => t
  | _ => 0
noncomputable def mkV (v : Value) : AV → Value
  | .none => .none
  | .bool b => .bool b
  | .int i => .int i (pd v)
  | .str x => .str (txt x) (pd v)
  | .glob u => u
  | .obj _ => .ellipsis
noncomputable def qf (a : AV) (v : Value) : Bool := decide (v = mkV v a) && (match a with | .obj _ => false | _ => true)
theorem ka {a : AV} {v : Value} (h : qf a v = true) : a.Is [] v := by
  obtain ⟨h1, h2⟩ := Bool.and_eq_true_iff.mp h
  have e := of_decide_eq_true h1
  cases a with
  | int i => exact ⟨_, e⟩
  | str x => exact ⟨_, e⟩
  | obj i => cases h2
  | _ => exact e
noncomputable def mH : List AV → List Value → Bool
  | [], vs => vs.isEmpty
  | a :: r, vs => match vs with
    | [] => false
    | v :: q => qf a v && mH r q
theorem la {l : List AV} : ∀ {vs : List Value}, mH l vs = true → Vals [] l vs := by
  induction l with
  | nil => intro vs h; exact List.isEmpty_iff.mp h
  | cons a r ih =>
    intro vs h
    cases vs with
    | nil => cases h
    | cons v q =>
      have h := Bool.and_eq_true_iff.mp h
      exact ⟨v, q, rfl, ka h.1, ih h.2⟩
noncomputable def iY (K : Frag) (a : Nat) : Obj := (K.lookup a).getD default
noncomputable def sj (K : Frag) (a : Nat) : List Value := match (iY K a).data with
  | .seq ws _ => ws.toList
  | _ => []
noncomputable def rn (K : Frag) (a : Nat) : List DictEntry := match (iY K a).data with
  | .dict es _ => es.toList
  | _ => []
noncomputable def sk (K : Frag) (a : Nat) : Nat := match (iY K a).data with
  | .seq _ n => n
  | .dict _ n => n
  | _ => 0
noncomputable def tc (K : Frag) (p : Nat × Bool × List AV) : Option Obj := some ⟨.type (if p.2.1 then "tuple" else "list"), none, .seq (sj K p.1).toArray (sk K p.1), #[]⟩
noncomputable def te (K : Frag) (p : Nat × List (List Nat × AV)) : Option Obj := some ⟨.type "dict", none, .dict (rn K p.1).toArray (sk K p.1), #[]⟩
noncomputable def pe : List (List Nat × AV) → List DictEntry → Bool
  | [], es => es.isEmpty
  | p :: r, es => match es with
    | [] => false
    | e :: q => decide (e.key = .str (txt p.1) (pd e.key)) && (qf p.2 e.val && pe r q)
theorem pf {P : Params} {fs : List (List Nat × AV)} : ∀ {es : List DictEntry}, pe fs es = true → es.map (·.hash) = fs.map (fun p => PyData.keyHash P (txt p.1)) → Lits P fs es := by
  induction fs with
  | nil => intro es h _; exact List.isEmpty_iff.mp h
  | cons p r ih =>
    intro es h e
    cases es with
    | nil => cases h
    | cons d q =>
      have h := Bool.and_eq_true_iff.mp h
      have h2 := Bool.and_eq_true_iff.mp h.2
      have e := List.cons.inj e
      have e1 : d = ⟨PyData.keyHash P (txt p.1), .str (txt p.1) (pd d.key), d.val⟩ := by
        have e2 : d.hash = PyData.keyHash P (txt p.1) := e.1
        rw [← of_decide_eq_true h.1, ← e2]
      exact ⟨_, _, q, congrArg (· :: q) e1, ka h2.1, ih h2.2 e.2⟩
noncomputable def sm (K : Frag) (n : Nat) : Value := ((nsIn K mainGlobals (nm n)).getD none).getD .none
noncomputable def qF (K : Frag) (p : Nat × AV) : Bool := nsIn K mainGlobals (nm p.1) == some (some (sm K p.1)) && qf p.2 (sm K p.1)
theorem pg {K : Frag} {p : Nat × AV} (h : qF K p = true) : ∃ v, nsIn K mainGlobals (nm p.1) = some (some v) ∧ ∀ ρ, p.2.Is ρ v :=
  have h := Bool.and_eq_true_iff.mp h
  ⟨_, eq_of_beq h.1, fun _ => Is.nil (ka h.2)⟩
noncomputable def fq (K : Frag) (a : Nat) : FuncData := match (iY K a).data with
  | .func f => f
  | _ => default
noncomputable def so (K : Frag) (v : Value) (ds : List AV) : Bool := match v with
  | .none => ds.isEmpty
  | .ref T => !ds.isEmpty && match K.lookup T with
    | some o => match o.data with
      | .seq ws _ => mH ds ws.toList
      | _ => false
    | none => false
  | _ => false
noncomputable def fnB (K : Frag) (a : Nat) (qual : Str) (ds : List AV) : Bool := codeIn K (fq K a).code qual && so K (fq K a).defaults ds
theorem FnIs.of {K : Frag} {a : Nat} {qual : Str} {fd : Stmt} {ds : List AV} (h1 : K.lookup a = some ⟨(iY K a).cls, (iY K a).dict, .func (fnOf (fH fd) qual (fG fd) (aL fd) (aw fd) (fq K a).defaults (fq K a).kwdefaults (fq K a).doc (fq K a).pyModule (fq K a).annotations (fq K a).code (fq K a).closureTuple), (iY K a).slots⟩)
    (h2 : fnB K a qual ds = true) : FnIs K a qual fd ds := by
  obtain ⟨h2, h3⟩ := Bool.and_eq_true_iff.mp h2
  refine ⟨_, _, _, _, _, _, _, _, _, _, h1, h2, ?_⟩
  unfold so at h3
  split at h3
  · rename_i e
    exact .inl ⟨List.isEmpty_iff.mp h3, e⟩
  · rename_i T e
    obtain ⟨h3, h4⟩ := Bool.and_eq_true_iff.mp h3
    split at h4
    · rename_i o e2
      split at h4
      · rename_i ws n e3
        refine .inr ⟨T, o, n, ws.toList, ?_, e, e2, e3, la h4⟩
        cases ds with
        | nil => cases h3
        | cons a r => exact Nat.succ_ne_zero _
      · cases h4
    · cases h4
  · cases h3
noncomputable def chT (K : Frag) : Nat := pd (((findIn K (.ref 166) (Str.ofString "_defaultChunkSize")).getD none).getD .none)
noncomputable def chB (K : Frag) : Bool := kb K 166 && (findIn K (.ref 166) (Str.ofString "_defaultChunkSize") == some (some (.int 10240 (chT K))) && (specialIn K (.int 10240 (chT K)) "__get__" == some none && !copiedNames.contains (Str.ofString "_defaultChunkSize")))
theorem ro {K : Frag} (h : chB K = true) : ∃ t, kb K 166 = true ∧ findIn K (.ref 166) (Str.ofString "_defaultChunkSize") = some (some (.int 10240 t)) ∧ specialIn K (.int 10240 t) "__get__" = some none ∧ copiedNames.contains (Str.ofString "_defaultChunkSize") = false :=
  have h := Bool.and_eq_true_iff.mp h
  have h2 := Bool.and_eq_true_iff.mp h.2
  have h3 := Bool.and_eq_true_iff.mp h2.2
  ⟨_, h.1, eq_of_beq h2.1, eq_of_beq h3.1, (Bool.not_eq_true' _).mp h3.2⟩
noncomputable def deB (K : Frag) (p : Nat × Nat) : Bool := nsIn K mainGlobals (nm p.1) == some (some (.ref p.2))
noncomputable def clB (K : Frag) (p : Nat × Nat) : Bool := makesIn K p.1 && findIn K (.ref p.1) "__init__" == some (some (.ref p.2)) && isFn K (.ref p.2) && keepIn K (.ref p.1)
noncomputable def fnL : List (Nat × Str × Stmt × List AV) := [
  (63, "Text.__init__", fd.initText, []),
  (70, "Text.read", fd.read, []),
  (84, "_is_invalid", fd.uis_invalid, []),
  (98, "HTMLUnicodeInputStream.__init__", fd.initHTMLUnicodeInputStream, []),
  (105, "HTMLUnicodeInputStream.reset", fd.reset, []),
  (112, "HTMLUnicodeInputStream.openStream", fd.openStream, []),
  (119, "HTMLUnicodeInputStream._position", fd.uposition, []),
  (126, "HTMLUnicodeInputStream.position", fd.position, []),
  (133, "HTMLUnicodeInputStream.char", fd.char, []),
  (141, "HTMLUnicodeInputStream.readChunk", fd.readChunk, [.none]),
  (148, "HTMLUnicodeInputStream.characterErrorsUCS4", fd.characterErrorsUCS4, []),
  (156, "HTMLUnicodeInputStream.charsUntil", fd.charsUntil, [.bool false]),
  (163, "HTMLUnicodeInputStream.unget", fd.unget, []),
  (261, "HTMLTokenizer.__init__", fd.initHTMLTokenizer, [.none]),
  (297, "HTMLTokenizer.emitCurrentToken", fd.emitCurrentToken, []),
  (304, "HTMLTokenizer.dataState", fd.dataState, []),
  (353, "HTMLTokenizer.tagOpenState", fd.tagOpenState, []),
  (360, "HTMLTokenizer.closeTagOpenState", fd.closeTagOpenState, []),
  (367, "HTMLTokenizer.tagNameState", fd.tagNameState, []),
  (535, "HTMLTokenizer.beforeAttributeNameState", fd.beforeAttributeNameState, []),
  (591, "HTMLTokenizer.selfClosingStartTagState", fd.selfClosingStartTagState, []),
  (598, "HTMLTokenizer.bogusCommentState", fd.bogusCommentState, []),
  (605, "HTMLTokenizer.markupDeclarationOpenState", fd.markupDeclarationOpenState, []),
  (42, "asciiLower", fd.asciiLower, []),
  (801, "_law_place", fd.ulaw_place, []),
  (808, "_law_flag", fd.ulaw_flag, []),
  (815, "_law_token", fd.ulaw_token, []),
  (820, "_law_queue", fd.ulaw_queue, []),
  (827, "_law_call", fd.ulaw_call, [])]
noncomputable def fnV (K : Frag) (p : Nat × Str × Stmt × List AV) : Option Obj := some ⟨(iY K p.1).cls, (iY K p.1).dict, .func (fnOf (fH p.2.2.1) p.2.1 (fG p.2.2.1) (aL p.2.2.1) (aw p.2.2.1) (fq K p.1).defaults (fq K p.1).kwdefaults (fq K p.1).doc (fq K p.1).pyModule (fq K p.1).annotations (fq K p.1).code (fq K p.1).closureTuple), (iY K p.1).slots⟩
theorem iP {α β : Type} {f g : α → β} : ∀ {l : List α}, l.map f = l.map g → ∀ p ∈ l, f p = g p
  | a :: r, h, p, hp => by
    obtain ⟨h1, h2⟩ := List.cons.inj h
    rcases List.mem_cons.mp hp with rfl | hp
    · exact h1
    · exact iP h2 p hp
theorem KAll.of {P : Params} {K : Frag} (z1 : (qG.all fun p => pk K p.1 (nm p.2)) = true)
    (z2 : (cr.all fun p => pn K p.1 (nm p.2.1) p.2.2) = true)
    (z3 : (cr.all fun p => qJ K (nm p.2.1) p.2.2) = true)
    (z4 : (tb.seqs.map fun p => K.lookup p.1) = tb.seqs.map (tc K))
    (x4 : (tb.seqs.all fun p => mH p.2.2 (sj K p.1)) = true)
    (z5 : (tb.dicts.map fun p => K.lookup p.1) = tb.dicts.map (te K))
    (x5 : (tb.dicts.all fun p => pe p.2 (rn K p.1) && !(p.1 == sysModules)) = true)
    (z6 : (tb.dicts.map fun p => (rn K p.1).map (·.hash)) = tb.dicts.map fun p => p.2.map fun q => PyData.keyHash P (txt q.1))
    (z7 : (n0.all fun p => qF K p) = true)
    (z8 : (n5.all fun n => nsIn K mainGlobals (nm n) == some none) = true)
    (z9 : (pL.all fun p => deB K p && keepIn K (.ref p.2)) = true)
    (z10 : (mR.all fun p => clB K p) = true)
    (z11 : (qV.all fun p => deB K p) = true)
    (z12 : (qk.all fun g => fnIn K g) = true)
    (z13 : chB K = true)
    (y1 : (fnL.map fun p => K.lookup p.1) = fnL.map (fnV K))
    (y2 : (fnL.all fun p => fnB K p.1 p.2.1 p.2.2.2) = true) : KAll P K := by
  have fn : ∀ p ∈ fnL, FnIs K p.1 p.2.1 p.2.2.1 p.2.2.2 := fun p hp => FnIs.of (iP y1 p hp) (List.all_eq_true.mp y2 p hp)
  have at' : ∀ (i : Nat) (p : Nat × Str × Stmt × List AV), fnL[i]? = some p → FnIs K p.1 p.2.1 p.2.2.1 p.2.2.2 := fun i p h => fn p (List.mem_of_getElem? h)
  exact {
    ok := ⟨⟨List.all_eq_true.mp z1, List.all_eq_true.mp z2⟩, List.all_eq_true.mp z3⟩
    t := ⟨fun p hp => ⟨_, _, iP z4 p hp, la (List.all_eq_true.mp x4 p hp)⟩, fun p hp => let h := Bool.and_eq_true_iff.mp (List.all_eq_true.mp x5 p hp); ⟨_, _, iP z5 p hp, pf h.1 (iP z6 p hp), (Bool.not_eq_true' _).mp h.2⟩⟩
    gl := fun p hp => pg (List.all_eq_true.mp z7 p hp)
    bu0 := fun n hn => eq_of_beq (List.all_eq_true.mp z8 n hn)
    de0 := fun p hp => let h := Bool.and_eq_true_iff.mp (List.all_eq_true.mp z9 p hp); ⟨eq_of_beq h.1, h.2⟩
    cl0 := fun p hp => by
      obtain ⟨h, h4⟩ := Bool.and_eq_true_iff.mp (List.all_eq_true.mp z10 p hp)
      obtain ⟨h, h3⟩ := Bool.and_eq_true_iff.mp h
      obtain ⟨h1, h2⟩ := Bool.and_eq_true_iff.mp h
      exact ⟨h1, eq_of_beq h2, h3, h4⟩
    ce0 := fun p hp => eq_of_beq (List.all_eq_true.mp z11 p hp)
    fi0 := fun g hg => List.all_eq_true.mp z12 g hg
    ch0 := ro z13
    finitText := at' 0 _ rfl
    fread := at' 1 _ rfl
    fuis_invalid := at' 2 _ rfl
    finitHTMLUnicodeInputStream := at' 3 _ rfl
    freset := at' 4 _ rfl
    fopenStream := at' 5 _ rfl
    fuposition := at' 6 _ rfl
    fposition := at' 7 _ rfl
    fchar := at' 8 _ rfl
    freadChunk := at' 9 _ rfl
    fcharacterErrorsUCS4 := at' 10 _ rfl
    fcharsUntil := at' 11 _ rfl
    funget := at' 12 _ rfl
    finitHTMLTokenizer := at' 13 _ rfl
    femitCurrentToken := at' 14 _ rfl
    fdataState := at' 15 _ rfl
    ftagOpenState := at' 16 _ rfl
    fcloseTagOpenState := at' 17 _ rfl
    ftagNameState := at' 18 _ rfl
    fbeforeAttributeNameState := at' 19 _ rfl
    fselfClosingStartTagState := at' 20 _ rfl
    fbogusCommentState := at' 21 _ rfl
    fmarkupDeclarationOpenState := at' 22 _ rfl
    fasciiLower := at' 23 _ rfl
    fulaw_place := at' 24 _ rfl
    fulaw_flag := at' 25 _ rfl
    fulaw_token := at' 26 _ rfl
    fulaw_queue := at' 27 _ rfl
    fulaw_call := at' 28 _ rfl
  }
theorem law_walk {prog : Program} {w : World} {K0 : Frag} {s₁ s : Shared} {h₁ : Heap} {fa a : Addr} {cd : Value} {q y : Str} {sc : Scope} {bod : List Stmt} {vs : List Value} {ns : List Int} {p : Program} {loose : List Str} {mg mb : Str → Option Value}
    {Q : Flow → Shared → Prop} {E : Value → Shared → Prop}
    (O : ∀ o : Obj, KAll w.params (K0 ++ [(a, o)])) (KX : K0.In s₁.heap) (top : TopRead p loose mg mb s₁.heap) (B : Below callerA s₁.heap [] s₁.heap) (hL : s₁.heap.IsList a vs.toArray) (hI : IntsAre vs ns) (hlen : ns.length ≤ 1000)
    (F : Fr s₁.heap s₁.heap.objs.size h₁ (fun x => List.lookup x [(y, Value.ref a)].reverse)) (hy : nm N.I = y) (N0 : News s₁.heap s₁.heap.objs.size h₁ [])
    (hb : bod = aL fd.law) (hsc : sc = aw fd.law) (hs : s.heap = h₁) (ht : Tk s.toks)
    (hQ : ∀ s', (∀ b o, s₁.heap.get? b = some o → s'.heap.get? b = some o) → s'.os = s.os → s'.gens = s.gens → Q (.ret (.bool true)) s') :
    wpAny (model prog w) (callerA.deeper (envOf q sc s₁.heap.objs.size fa cd)) (execs bod (envOf q sc s₁.heap.objs.size fa cd)) Q E s := by
  subst hb hsc hs
  obtain ⟨o, hg, hc, n, hd⟩ := hL
  have hlk : (K0 ++ [(a, o)]).lookup a = some o := by
    rw [List.lookup_append]
    cases h0 : K0.lookup a with
    | none => simp [List.lookup_cons]
    | some o' =>
      have := KX _ _ h0
      rw [hg] at this
      cases this
      rfl
  have hIn : Frag.In (K0 ++ [(a, o)]) s₁.heap := by
    intro b o' hb
    rw [List.lookup_append] at hb
    cases h0 : K0.lookup b with
    | some o2 =>
      rw [h0] at hb
      cases hb
      exact KX _ _ h0
    | none =>
      rw [h0] at hb
      simp only [Option.none_or, List.lookup_cons, List.lookup_nil] at hb
      cases hba : (b == a) with
      | true =>
        rw [hba] at hb
        cases hb
        rw [eq_of_beq hba]; exact hg
      | false => rw [hba] at hb; cases hb
  have hS : Scr (K0 ++ [(a, o)]) a ns := ⟨⟨o, vs, n, hlk, hc, hd, hI⟩, hlen⟩
  have hx : Cx (K0 ++ [(a, o)]) 7 (callerA.deeper (envOf q (aw fd.law) s₁.heap.objs.size fa cd)) q (aw fd.law) s₁.heap.objs.size fa cd s₁.heap :=
    ⟨⟨hIn, ⟨p, loose, mg, mb, top⟩⟩, ⟨callerA, s₁.heap, [], B, Around.frames_deeper B.stack⟩, rfl, by simp only [depth_deeper, depth_caller]; decide, by simp only [units_deeper, units_caller]; decide, by kernel_rfl⟩
  have hR : Rl w.params s₁.heap s₁.heap.objs.size s.heap ⟨[(N.I, .glob (.ref a))], []⟩ [] := by
    refine ⟨_, [], F, N0, List.nodup_nil, ⟨rfl, rfl⟩, ?_⟩
    intro m v e
    unfold ag at e
    cases hq : Nat.beq N.I m with
    | true =>
      rw [hq] at e
      cases e
      obtain rfl := Nat.eq_of_beq_eq_true hq
      refine ⟨.ref a, ?_, rfl⟩
      rw [hy]; simp [List.lookup_cons]
    | false => rw [hq] at e; cases e
  have run := (_root_.Mine.B.law (prog := prog) (q := q) (f := fa) (cd := cd) (O o) hS).run _ s₁.heap.objs.size s₁.heap s ht _ [] _ hx hR (pb a ns)
  refine wpAny_mono run (fun f s' pp => ?_) fun _ _ x => x.elim
  obtain ⟨h', tk, b, st', σ, rfl, ⟨m, cs, R'⟩, i, rfl⟩ := pp
  obtain ⟨v, rfl, hv⟩ := i
  have hv : v = .bool true := hv
  subst hv
  exact hQ _ R'.fr.keep rfl rfl
theorem good_true {cl : Str → Option Addr} {mean : ExcName → Option Value} {args : List WData} {s₁ s' : Shared} (hk : ∀ b o, s₁.heap.get? b = some o → s'.heap.get? b = some o) (ho : s'.os = s₁.os) (hg : s'.gens = #[]) :
    GoodW PySem.Challenge.rw_ru0005_01.row.claim cl mean args s₁ (.ok (.ret (.bool true))) s' := by
  refine ⟨.inl ⟨.bool true, .bool true, [], rfl, fun cls => ?_, ?_, ?_, fun _ => ⟨List.nodup_nil, fun a ha => (List.not_mem_nil ha).elim⟩⟩, hk, ho, hg⟩
  · rfl
  · exact .bool true
  · refine postW_of (r := OpenRow.toRowW PySem.Challenge.rw_ru0005_01.row) (X := true) ?_ ?_ rfl
    · show WShape.has [] (.bool true) .bool = true
      decide +kernel
    · show (WTm.eq .res (.lit (.bool true))).value [] { args := args, res := some (.bool true), after := args } = some (.bool true)
      first | wtm_val | (rw [WTm.value]; simp only [WTm.value]; decide +kernel)
end Mine
end
end
namespace Mine.head
theorem tw10005452208157733855:True:=⟨⟩
theorem tw10015159338476511836:True:=⟨⟩
theorem tw10018764681926925449:True:=⟨⟩
theorem tw10021064610941686981:True:=⟨⟩
theorem tw10059252607514160932:True:=⟨⟩
theorem tw10070411193226618655:True:=⟨⟩
theorem tw10110233660360586483:True:=⟨⟩
theorem tw10116942457455264815:True:=⟨⟩
theorem tw10128390137947593754:True:=⟨⟩
theorem tw10128820837102578890:True:=⟨⟩
theorem tw10170068340998493759:True:=⟨⟩
theorem tw10187618423342961781:True:=⟨⟩
theorem tw10205530081349824492:True:=⟨⟩
theorem tw10242447542790323104:True:=⟨⟩
theorem tw10258521583956687137:True:=⟨⟩
theorem tw10261356005730403935:True:=⟨⟩
theorem tw10270352894671993868:True:=⟨⟩
theorem tw10275354952418168282:True:=⟨⟩
theorem tw10307130028497402462:True:=⟨⟩
theorem tw10317212456122042642:True:=⟨⟩
theorem tw10333954764705244698:True:=⟨⟩
theorem tw10340462753498674063:True:=⟨⟩
theorem tw10356212845559719233:True:=⟨⟩
theorem tw10371985647062452541:True:=⟨⟩
theorem tw10400636543074173776:True:=⟨⟩
theorem tw10431609616501453582:True:=⟨⟩
theorem tw10457615780465708087:True:=⟨⟩
theorem tw10467814448475477596:True:=⟨⟩
theorem tw10472834687351259785:True:=⟨⟩
theorem tw10504981510240967646:True:=⟨⟩
theorem tw10510622979536455646:True:=⟨⟩
theorem tw10519217271611395807:True:=⟨⟩
theorem tw10521553517811329670:True:=⟨⟩
theorem tw1056085985882870562:True:=⟨⟩
theorem tw10573961123116132518:True:=⟨⟩
theorem tw10589435714200987077:True:=⟨⟩
theorem tw1060599470133986369:True:=⟨⟩
theorem tw1061700454162486011:True:=⟨⟩
theorem tw1062042127530464391:True:=⟨⟩
theorem tw10668533816033670360:True:=⟨⟩
theorem tw10698650227242318774:True:=⟨⟩
theorem tw10706776884845955466:True:=⟨⟩
theorem tw10730805705081004914:True:=⟨⟩
theorem tw10735254221757914791:True:=⟨⟩
theorem tw10736139440505347576:True:=⟨⟩
theorem tw10746725682022337571:True:=⟨⟩
theorem tw10748227973586771634:True:=⟨⟩
theorem tw10775541529341759161:True:=⟨⟩
theorem tw10786079294511566085:True:=⟨⟩
theorem tw10812213935944405949:True:=⟨⟩
theorem tw1082313596108445148:True:=⟨⟩
theorem tw10840385229135970747:True:=⟨⟩
theorem tw10845400790151957771:True:=⟨⟩
theorem tw10872037306656784433:True:=⟨⟩
theorem tw10875119458065257276:True:=⟨⟩
theorem tw10900948863051656163:True:=⟨⟩
theorem tw10927441816077202529:True:=⟨⟩
theorem tw10936905620487946977:True:=⟨⟩
theorem tw10947310743691471603:True:=⟨⟩
theorem tw10948677003083999065:True:=⟨⟩
theorem tw10988817232074504935:True:=⟨⟩
theorem tw11001102331484777339:True:=⟨⟩
theorem tw11052631288978436188:True:=⟨⟩
theorem tw11060938730435951684:True:=⟨⟩
theorem tw11063524718261073790:True:=⟨⟩
theorem tw11081218982966106116:True:=⟨⟩
theorem tw11105056867450500199:True:=⟨⟩
theorem tw11124748197601291601:True:=⟨⟩
theorem tw11128210870785958166:True:=⟨⟩
theorem tw11180365069992382532:True:=⟨⟩
theorem tw11194998557105285118:True:=⟨⟩
theorem tw1120683029170811851:True:=⟨⟩
theorem tw1125430239929706018:True:=⟨⟩
theorem tw11272387910097111511:True:=⟨⟩
theorem tw11274228538900641214:True:=⟨⟩
theorem tw11289835788462762251:True:=⟨⟩
theorem tw11290360913936777911:True:=⟨⟩
theorem tw11296743742662292762:True:=⟨⟩
theorem tw11305582741114486441:True:=⟨⟩
theorem tw11308087075614649832:True:=⟨⟩
theorem tw11338825007792423415:True:=⟨⟩
theorem tw1134157569726261602:True:=⟨⟩
theorem tw11402027661713467040:True:=⟨⟩
theorem tw11426403942048686318:True:=⟨⟩
theorem tw11434997419882176723:True:=⟨⟩
theorem tw11484358847640170188:True:=⟨⟩
theorem tw11485113708198979986:True:=⟨⟩
theorem tw11540487432870637733:True:=⟨⟩
theorem tw11544532188706048022:True:=⟨⟩
theorem tw1155926839051525531:True:=⟨⟩
theorem tw11569442021236766091:True:=⟨⟩
theorem tw11582096051123008839:True:=⟨⟩
theorem tw11597336398036118778:True:=⟨⟩
theorem tw11613311375368785083:True:=⟨⟩
theorem tw11628534518673281344:True:=⟨⟩
theorem tw11629762434490789354:True:=⟨⟩
theorem tw11636873012791513418:True:=⟨⟩
theorem tw11680266561614322678:True:=⟨⟩
theorem tw11685017591894731939:True:=⟨⟩
theorem tw11692735721529064706:True:=⟨⟩
theorem tw11704837465938651953:True:=⟨⟩
theorem tw11714945338242495837:True:=⟨⟩
theorem tw11715283913529211631:True:=⟨⟩
theorem tw1172538174109094731:True:=⟨⟩
theorem tw11732908120936727654:True:=⟨⟩
theorem tw11770459041652445329:True:=⟨⟩
theorem tw11808996689058197189:True:=⟨⟩
theorem tw11820730986300896962:True:=⟨⟩
theorem tw11834849419477591606:True:=⟨⟩
theorem tw11892436614613694032:True:=⟨⟩
theorem tw11904684991359361074:True:=⟨⟩
theorem tw11914187763297459524:True:=⟨⟩
theorem tw11923155195566972133:True:=⟨⟩
theorem tw11925700103697007601:True:=⟨⟩
theorem tw11988142204041823098:True:=⟨⟩
theorem tw11998209505049934977:True:=⟨⟩
theorem tw12001678874559884529:True:=⟨⟩
theorem tw12024539317367501503:True:=⟨⟩
theorem tw12032222614953749359:True:=⟨⟩
theorem tw12037728316022314418:True:=⟨⟩
theorem tw12043669396524033845:True:=⟨⟩
theorem tw12084453891678590660:True:=⟨⟩
theorem tw12095829319087573521:True:=⟨⟩
theorem tw1211024037004892549:True:=⟨⟩
theorem tw12120646240234225243:True:=⟨⟩
theorem tw1212124681294104184:True:=⟨⟩
theorem tw1214346256449528893:True:=⟨⟩
theorem tw12147184966966947637:True:=⟨⟩
theorem tw12157662564070965069:True:=⟨⟩
theorem tw1218028761782608530:True:=⟨⟩
theorem tw12182850187970735909:True:=⟨⟩
theorem tw12201952087667049370:True:=⟨⟩
theorem tw12205659690895024086:True:=⟨⟩
theorem tw12207028300977255130:True:=⟨⟩
theorem tw12212823987433534256:True:=⟨⟩
theorem tw12214093580764582487:True:=⟨⟩
theorem tw12233390650770049543:True:=⟨⟩
theorem tw1224924573807776437:True:=⟨⟩
theorem tw12249523057431388528:True:=⟨⟩
theorem tw12268914432092229731:True:=⟨⟩
theorem tw12275693417441809861:True:=⟨⟩
theorem tw12280473595433404654:True:=⟨⟩
theorem tw12287978374625458572:True:=⟨⟩
theorem tw12290355021003547902:True:=⟨⟩
theorem tw12310735299239354703:True:=⟨⟩
theorem tw12321676766767419452:True:=⟨⟩
theorem tw12324890628731678277:True:=⟨⟩
theorem tw1232503513038610811:True:=⟨⟩
theorem tw12328230846540189838:True:=⟨⟩
theorem tw12330954535739239725:True:=⟨⟩
theorem tw12339793173418651155:True:=⟨⟩
theorem tw12344544660321961925:True:=⟨⟩
theorem tw1235056861985050600:True:=⟨⟩
theorem tw12359489953124434286:True:=⟨⟩
theorem tw12362083183470981646:True:=⟨⟩
theorem tw12364624919760631829:True:=⟨⟩
theorem tw12371566548271132015:True:=⟨⟩
theorem tw12394069701764826827:True:=⟨⟩
theorem tw12398312691204496596:True:=⟨⟩
theorem tw12417293695627231756:True:=⟨⟩
theorem tw12427710115714267126:True:=⟨⟩
theorem tw12428389735305899900:True:=⟨⟩
theorem tw12460202669355646752:True:=⟨⟩
theorem tw12472887615940459650:True:=⟨⟩
theorem tw12475708393154427166:True:=⟨⟩
theorem tw124883101675373894:True:=⟨⟩
theorem tw12542841389457131302:True:=⟨⟩
theorem tw12573619785200380473:True:=⟨⟩
theorem tw12596154207471609045:True:=⟨⟩
theorem tw12601080634535202701:True:=⟨⟩
theorem tw12611893724949602041:True:=⟨⟩
theorem tw12666380852390969779:True:=⟨⟩
theorem tw12668424612319814730:True:=⟨⟩
theorem tw12682429181067543257:True:=⟨⟩
theorem tw12683715663295903708:True:=⟨⟩
theorem tw12695399030622205104:True:=⟨⟩
theorem tw12704426703380559182:True:=⟨⟩
theorem tw12727220549172885185:True:=⟨⟩
theorem tw12740806245664736207:True:=⟨⟩
theorem tw12741294794224977040:True:=⟨⟩
theorem tw12763952150808568291:True:=⟨⟩
theorem tw12764128322984676335:True:=⟨⟩
theorem tw1276956409769668328:True:=⟨⟩
theorem tw12773685731770592110:True:=⟨⟩
theorem tw12775505166333009402:True:=⟨⟩
theorem tw12795389718870424448:True:=⟨⟩
theorem tw12799616582074740251:True:=⟨⟩
theorem tw12799966317143952679:True:=⟨⟩
theorem tw12822298378996975857:True:=⟨⟩
theorem tw12841863872788715202:True:=⟨⟩
theorem tw12851702773856589430:True:=⟨⟩
theorem tw12856577281151766611:True:=⟨⟩
theorem tw12858780395421280599:True:=⟨⟩
theorem tw12865059321931465230:True:=⟨⟩
theorem tw12870424476946447624:True:=⟨⟩
theorem tw12875325457547866274:True:=⟨⟩
theorem tw12892129938458570674:True:=⟨⟩
theorem tw12903917746401883607:True:=⟨⟩
theorem tw12907541655043102265:True:=⟨⟩
theorem tw12908475990344208633:True:=⟨⟩
theorem tw12949380547846470161:True:=⟨⟩
theorem tw12961769733115803770:True:=⟨⟩
theorem tw12987040726578829979:True:=⟨⟩
theorem tw13017206433863751270:True:=⟨⟩
theorem tw13065621461132903086:True:=⟨⟩
theorem tw13135395098459392958:True:=⟨⟩
theorem tw13137911371727378231:True:=⟨⟩
theorem tw13180129090757240718:True:=⟨⟩
theorem tw1318689175770300589:True:=⟨⟩
theorem tw13198292447841614426:True:=⟨⟩
theorem tw13199516396595161752:True:=⟨⟩
theorem tw1319983325249436295:True:=⟨⟩
theorem tw13213268828098156179:True:=⟨⟩
theorem tw13216898753189638151:True:=⟨⟩
theorem tw13227620805987009915:True:=⟨⟩
theorem tw13249071542605338262:True:=⟨⟩
theorem tw13276723143375012678:True:=⟨⟩
theorem tw13277643439714857746:True:=⟨⟩
theorem tw13295082483830516422:True:=⟨⟩
theorem tw13295774097974887486:True:=⟨⟩
theorem tw13315729282080922261:True:=⟨⟩
theorem tw13335025841360890868:True:=⟨⟩
theorem tw13337238644230332656:True:=⟨⟩
theorem tw13353151263460963528:True:=⟨⟩
theorem tw13357441389134331599:True:=⟨⟩
theorem tw13379202705063549618:True:=⟨⟩
theorem tw13379354915994877463:True:=⟨⟩
theorem tw13381877923881390905:True:=⟨⟩
theorem tw13381936622781507537:True:=⟨⟩
theorem tw13397106695672350980:True:=⟨⟩
theorem tw1344716296598748285:True:=⟨⟩
theorem tw13448663612475342349:True:=⟨⟩
theorem tw13478637309914159250:True:=⟨⟩
theorem tw13488047542759136002:True:=⟨⟩
theorem tw13504307299585405616:True:=⟨⟩
theorem tw13508044439285423174:True:=⟨⟩
theorem tw13510609219080548989:True:=⟨⟩
theorem tw1351559336864506655:True:=⟨⟩
theorem tw13537664574400122534:True:=⟨⟩
theorem tw13585267454733459922:True:=⟨⟩
theorem tw13600378441667735501:True:=⟨⟩
theorem tw13605870324054321959:True:=⟨⟩
theorem tw13631071318896544983:True:=⟨⟩
theorem tw13637325136056909300:True:=⟨⟩
theorem tw13647830643472755754:True:=⟨⟩
theorem tw13650549970936915252:True:=⟨⟩
theorem tw13653928888864918839:True:=⟨⟩
theorem tw13664066127859960707:True:=⟨⟩
theorem tw13673146470031054802:True:=⟨⟩
theorem tw13687475568465949530:True:=⟨⟩
theorem tw13697588214506672789:True:=⟨⟩
theorem tw13741680068142600715:True:=⟨⟩
theorem tw13750642191701924398:True:=⟨⟩
theorem tw13800718416732639697:True:=⟨⟩
theorem tw13801937863458859944:True:=⟨⟩
theorem tw13846591363081406657:True:=⟨⟩
theorem tw13868347639449504327:True:=⟨⟩
theorem tw13896987355042952010:True:=⟨⟩
theorem tw1389810093214676884:True:=⟨⟩
theorem tw13906610036690215845:True:=⟨⟩
theorem tw13910694723763315657:True:=⟨⟩
theorem tw13917482298092908234:True:=⟨⟩
theorem tw13942192884097748152:True:=⟨⟩
theorem tw13954853420313727417:True:=⟨⟩
theorem tw1398043889541792783:True:=⟨⟩
theorem tw13986843968525588388:True:=⟨⟩
theorem tw13988103294471073821:True:=⟨⟩
theorem tw13999681649124312864:True:=⟨⟩
theorem tw140066278072042493:True:=⟨⟩
theorem tw14028522991509751376:True:=⟨⟩
theorem tw14044199270964426944:True:=⟨⟩
theorem tw14059167943309011982:True:=⟨⟩
theorem tw14061139507663348314:True:=⟨⟩
theorem tw14068133799693864440:True:=⟨⟩
theorem tw14078167904914714981:True:=⟨⟩
theorem tw14083850284487924763:True:=⟨⟩
theorem tw14086173767186703872:True:=⟨⟩
theorem tw14090159008775844135:True:=⟨⟩
theorem tw14112051064653734678:True:=⟨⟩
theorem tw14127983276867164173:True:=⟨⟩
theorem tw14139502460874162764:True:=⟨⟩
theorem tw14139617269561922093:True:=⟨⟩
theorem tw14149427978524627653:True:=⟨⟩
theorem tw14149492867418468938:True:=⟨⟩
theorem tw14168692526580214153:True:=⟨⟩
theorem tw14195316510222423288:True:=⟨⟩
theorem tw14220653579789841498:True:=⟨⟩
theorem tw14234965402570480558:True:=⟨⟩
theorem tw14235953900361662071:True:=⟨⟩
theorem tw14241001667801471300:True:=⟨⟩
theorem tw1425459126675767727:True:=⟨⟩
theorem tw14255830675389880745:True:=⟨⟩
theorem tw14277528927401260903:True:=⟨⟩
theorem tw14306030232151103276:True:=⟨⟩
theorem tw14317123458598432329:True:=⟨⟩
theorem tw14330330676051879864:True:=⟨⟩
theorem tw14344768424176206936:True:=⟨⟩
theorem tw14349913743752837093:True:=⟨⟩
theorem tw14364637388885140079:True:=⟨⟩
theorem tw14385403278947933607:True:=⟨⟩
theorem tw1438866918597655640:True:=⟨⟩
theorem tw14417885227837004991:True:=⟨⟩
theorem tw14427283581363961175:True:=⟨⟩
theorem tw14429822130985059091:True:=⟨⟩
theorem tw14432977821161478157:True:=⟨⟩
theorem tw14488727979953464203:True:=⟨⟩
theorem tw14513887754847984766:True:=⟨⟩
theorem tw14527164170590304321:True:=⟨⟩
theorem tw14565420633037775528:True:=⟨⟩
theorem tw1457377512435260902:True:=⟨⟩
theorem tw14586503196746008701:True:=⟨⟩
theorem tw14597329475937083939:True:=⟨⟩
theorem tw14615432700455777464:True:=⟨⟩
theorem tw14631306762972528136:True:=⟨⟩
theorem tw14631705268626504575:True:=⟨⟩
theorem tw1463646239528298992:True:=⟨⟩
theorem tw14637134836413734856:True:=⟨⟩
theorem tw14643560169476415855:True:=⟨⟩
theorem tw14643959010103036307:True:=⟨⟩
theorem tw14646466228836335164:True:=⟨⟩
theorem tw14667470093908496907:True:=⟨⟩
theorem tw14676189674455941282:True:=⟨⟩
theorem tw14699756766385990792:True:=⟨⟩
theorem tw1472379273497163797:True:=⟨⟩
theorem tw14735301032572234722:True:=⟨⟩
theorem tw14744981736328886265:True:=⟨⟩
theorem tw14746898714274692784:True:=⟨⟩
theorem tw14759185912286986992:True:=⟨⟩
theorem tw14768688571040804171:True:=⟨⟩
theorem tw14788773977795034992:True:=⟨⟩
theorem tw14796412885826930917:True:=⟨⟩
theorem tw14818019229276831692:True:=⟨⟩
theorem tw14842460003800876886:True:=⟨⟩
theorem tw14843749296085226474:True:=⟨⟩
theorem tw14862789650711617903:True:=⟨⟩
theorem tw14877080517539528568:True:=⟨⟩
theorem tw1489404036187247834:True:=⟨⟩
theorem tw14909605222495392915:True:=⟨⟩
theorem tw14922436083285072407:True:=⟨⟩
theorem tw14943480678444902952:True:=⟨⟩
theorem tw14946772226789246504:True:=⟨⟩
theorem tw14956371261235936329:True:=⟨⟩
theorem tw1495726902847802894:True:=⟨⟩
theorem tw14959218684248593190:True:=⟨⟩
theorem tw14969385696402013904:True:=⟨⟩
theorem tw14969395210118534408:True:=⟨⟩
theorem tw14969872817325187116:True:=⟨⟩
theorem tw14982685227137828758:True:=⟨⟩
theorem tw14983349147647662914:True:=⟨⟩
theorem tw1499353310998574721:True:=⟨⟩
theorem tw14999265807660949796:True:=⟨⟩
theorem tw15001418939266856263:True:=⟨⟩
theorem tw1503407388533364548:True:=⟨⟩
theorem tw15035418422258542911:True:=⟨⟩
theorem tw15064752311394979489:True:=⟨⟩
theorem tw1506576300011279404:True:=⟨⟩
theorem tw15095179193122606544:True:=⟨⟩
theorem tw15112835437128306455:True:=⟨⟩
theorem tw15127644999133008818:True:=⟨⟩
theorem tw15148963937461231693:True:=⟨⟩
theorem tw15171285062763278426:True:=⟨⟩
theorem tw15181326774706428367:True:=⟨⟩
theorem tw1519320592345488741:True:=⟨⟩
theorem tw15204471325056678010:True:=⟨⟩
theorem tw15215111219801757744:True:=⟨⟩
theorem tw1522823579158628613:True:=⟨⟩
theorem tw1524684057812940815:True:=⟨⟩
theorem tw15248001044337979736:True:=⟨⟩
theorem tw15250023729529759990:True:=⟨⟩
theorem tw15253147559959296200:True:=⟨⟩
theorem tw15256841493749336786:True:=⟨⟩
theorem tw15263674166054382079:True:=⟨⟩
theorem tw15296082917334920728:True:=⟨⟩
theorem tw15305915472762889579:True:=⟨⟩
theorem tw15317023959539522800:True:=⟨⟩
theorem tw15326552575505426906:True:=⟨⟩
theorem tw15328847239876097677:True:=⟨⟩
theorem tw15330342782969278459:True:=⟨⟩
theorem tw15392136045813129965:True:=⟨⟩
theorem tw15399148058966210843:True:=⟨⟩
theorem tw15410735652082386980:True:=⟨⟩
theorem tw15452280279296900796:True:=⟨⟩
theorem tw15468718075485040107:True:=⟨⟩
theorem tw15501141472565082077:True:=⟨⟩
theorem tw15506723302920939300:True:=⟨⟩
theorem tw15539854500240908086:True:=⟨⟩
theorem tw15564447279633807951:True:=⟨⟩
theorem tw1557141247577048592:True:=⟨⟩
theorem tw1557412913169001158:True:=⟨⟩
theorem tw15638870477510070732:True:=⟨⟩
theorem tw15656768269340197940:True:=⟨⟩
theorem tw15676425527210111115:True:=⟨⟩
theorem tw15691586631956691426:True:=⟨⟩
theorem tw15736342250582547807:True:=⟨⟩
theorem tw15779500811904541264:True:=⟨⟩
theorem tw15782939476341012554:True:=⟨⟩
theorem tw15785421084128741142:True:=⟨⟩
theorem tw15796087645652482245:True:=⟨⟩
theorem tw15798066900824788120:True:=⟨⟩
theorem tw15827502805916655846:True:=⟨⟩
theorem tw15832300201269216667:True:=⟨⟩
theorem tw15840312062823119879:True:=⟨⟩
theorem tw15841401105113185080:True:=⟨⟩
theorem tw15845715064670954444:True:=⟨⟩
theorem tw1588943658860677225:True:=⟨⟩
theorem tw15894371620910866019:True:=⟨⟩
theorem tw15898109809663626304:True:=⟨⟩
theorem tw15924019268735266097:True:=⟨⟩
theorem tw1593561654347908568:True:=⟨⟩
theorem tw16014373381606645092:True:=⟨⟩
theorem tw16031315777459398524:True:=⟨⟩
theorem tw16065611263816554750:True:=⟨⟩
theorem tw16072502192527678464:True:=⟨⟩
theorem tw16078238667976319046:True:=⟨⟩
theorem tw1608297297296620843:True:=⟨⟩
theorem tw16106133796442146334:True:=⟨⟩
theorem tw16111715859725283846:True:=⟨⟩
theorem tw16166440364842034014:True:=⟨⟩
theorem tw16169396229317227677:True:=⟨⟩
theorem tw16172288393029767808:True:=⟨⟩
theorem tw16172356507618199906:True:=⟨⟩
theorem tw1618804561499322139:True:=⟨⟩
theorem tw1626232751844553403:True:=⟨⟩
theorem tw16272097951300814418:True:=⟨⟩
theorem tw16291991722392533869:True:=⟨⟩
theorem tw16332062296072025786:True:=⟨⟩
theorem tw16385634705727604063:True:=⟨⟩
theorem tw1643771367246577777:True:=⟨⟩
theorem tw16441004959143088680:True:=⟨⟩
theorem tw16472945084836616533:True:=⟨⟩
theorem tw16474958459275807246:True:=⟨⟩
theorem tw16495435189000846180:True:=⟨⟩
theorem tw16530349751119242087:True:=⟨⟩
theorem tw16545597347906280737:True:=⟨⟩
theorem tw16546490078704341612:True:=⟨⟩
theorem tw16572314662081343053:True:=⟨⟩
theorem tw16576625349610184965:True:=⟨⟩
theorem tw16579250180923337425:True:=⟨⟩
theorem tw16582591585412914238:True:=⟨⟩
theorem tw1660877005871194693:True:=⟨⟩
theorem tw16640130746408290383:True:=⟨⟩
theorem tw16647155751929229394:True:=⟨⟩
theorem tw16659920880120507502:True:=⟨⟩
theorem tw16695014060947850149:True:=⟨⟩
theorem tw16703865258624009325:True:=⟨⟩
theorem tw16714887947964762639:True:=⟨⟩
theorem tw1673358830478937286:True:=⟨⟩
theorem tw16782820856776367440:True:=⟨⟩
theorem tw16800043278716471037:True:=⟨⟩
theorem tw16817119741492734445:True:=⟨⟩
theorem tw16821450928103126590:True:=⟨⟩
theorem tw16828514060538661750:True:=⟨⟩
theorem tw16845296645482713644:True:=⟨⟩
theorem tw16847831306532103052:True:=⟨⟩
theorem tw16871623187472473471:True:=⟨⟩
theorem tw1687793838685487538:True:=⟨⟩
theorem tw16888070154925205155:True:=⟨⟩
theorem tw1689142752476645926:True:=⟨⟩
theorem tw16894393574925625578:True:=⟨⟩
theorem tw16894561301568121468:True:=⟨⟩
theorem tw16903022960794457021:True:=⟨⟩
theorem tw16917608666046251313:True:=⟨⟩
theorem tw16922147877168347812:True:=⟨⟩
theorem tw1693818546310300448:True:=⟨⟩
theorem tw16942090399603786721:True:=⟨⟩
theorem tw16952181060025214987:True:=⟨⟩
theorem tw16962450398199861240:True:=⟨⟩
theorem tw16966009324859112401:True:=⟨⟩
theorem tw16974685034882416825:True:=⟨⟩
theorem tw16984083398119652359:True:=⟨⟩
theorem tw16997897962222511:True:=⟨⟩
theorem tw17002534310236347988:True:=⟨⟩
theorem tw17007033763367706731:True:=⟨⟩
theorem tw17008234436448823602:True:=⟨⟩
theorem tw17014415605687186514:True:=⟨⟩
theorem tw17014734716931888790:True:=⟨⟩
theorem tw17017319662998615:True:=⟨⟩
theorem tw17036404701509520903:True:=⟨⟩
theorem tw17037872496334206203:True:=⟨⟩
theorem tw1703907593899377836:True:=⟨⟩
theorem tw17039324001796647390:True:=⟨⟩
theorem tw17047625674926534286:True:=⟨⟩
theorem tw17050696954950088759:True:=⟨⟩
theorem tw17062125606838978880:True:=⟨⟩
theorem tw17093656651364094606:True:=⟨⟩
theorem tw17129914584562691343:True:=⟨⟩
theorem tw17142359554024780413:True:=⟨⟩
theorem tw1714602735852981970:True:=⟨⟩
theorem tw17156091980717111821:True:=⟨⟩
theorem tw17173245716831642929:True:=⟨⟩
theorem tw17173436117698932495:True:=⟨⟩
theorem tw1718890006036334650:True:=⟨⟩
theorem tw17188972718952451159:True:=⟨⟩
theorem tw17190349231170142043:True:=⟨⟩
theorem tw17194126546080390198:True:=⟨⟩
theorem tw17238610979035211840:True:=⟨⟩
theorem tw17243387458012846398:True:=⟨⟩
theorem tw17262968490309938674:True:=⟨⟩
theorem tw17265401458761052179:True:=⟨⟩
theorem tw17287069475806534740:True:=⟨⟩
theorem tw1728724042893426364:True:=⟨⟩
theorem tw17297054508065495485:True:=⟨⟩
theorem tw17304152732226823993:True:=⟨⟩
theorem tw17312431094565309094:True:=⟨⟩
theorem tw17339705970751849611:True:=⟨⟩
theorem tw17346037399652195860:True:=⟨⟩
theorem tw17348764703882912863:True:=⟨⟩
theorem tw17362218986543327160:True:=⟨⟩
theorem tw17377423518514600169:True:=⟨⟩
theorem tw17411354535832351560:True:=⟨⟩
theorem tw17444863063712431705:True:=⟨⟩
theorem tw17458890533420659534:True:=⟨⟩
theorem tw17464823870196871000:True:=⟨⟩
theorem tw1748456618969930982:True:=⟨⟩
theorem tw17486074103640542121:True:=⟨⟩
theorem tw1750507733526642434:True:=⟨⟩
theorem tw17508272824862286709:True:=⟨⟩
theorem tw17522360388414511382:True:=⟨⟩
theorem tw17525636777796739105:True:=⟨⟩
theorem tw17539234302018041193:True:=⟨⟩
theorem tw17541063381433097499:True:=⟨⟩
theorem tw17553620660974883448:True:=⟨⟩
theorem tw1756991915124769162:True:=⟨⟩
theorem tw17573037796337583832:True:=⟨⟩
theorem tw17630500395600762314:True:=⟨⟩
theorem tw17646911460466567920:True:=⟨⟩
theorem tw1764952784847918493:True:=⟨⟩
theorem tw17658000642845759554:True:=⟨⟩
theorem tw1766074496371839085:True:=⟨⟩
theorem tw17674571679781333832:True:=⟨⟩
theorem tw17698105195316432488:True:=⟨⟩
theorem tw17725469503822016867:True:=⟨⟩
theorem tw17768545326873755256:True:=⟨⟩
theorem tw17769433529836712537:True:=⟨⟩
theorem tw17782148633632673465:True:=⟨⟩
theorem tw17784522201281872271:True:=⟨⟩
theorem tw17784925447008408576:True:=⟨⟩
theorem tw17788742646020836255:True:=⟨⟩
theorem tw17821319399108415887:True:=⟨⟩
theorem tw17826015225549371706:True:=⟨⟩
theorem tw17836260108008149386:True:=⟨⟩
theorem tw17836618258811950860:True:=⟨⟩
theorem tw17844492200522320778:True:=⟨⟩
theorem tw17850378814381688901:True:=⟨⟩
theorem tw17854890406432584798:True:=⟨⟩
theorem tw17854896373637125580:True:=⟨⟩
theorem tw1786199778172832133:True:=⟨⟩
theorem tw17889261914703972767:True:=⟨⟩
theorem tw17890245599415353634:True:=⟨⟩
theorem tw17894702793023417833:True:=⟨⟩
theorem tw17905491414393134947:True:=⟨⟩
theorem tw1792277464101229681:True:=⟨⟩
theorem tw17958272820484234708:True:=⟨⟩
theorem tw17972497016974392416:True:=⟨⟩
theorem tw17975491588444890076:True:=⟨⟩
theorem tw17988201657351507238:True:=⟨⟩
theorem tw17993767162375566018:True:=⟨⟩
theorem tw18007968972792079559:True:=⟨⟩
theorem tw18051680202136193954:True:=⟨⟩
theorem tw18080951475816111786:True:=⟨⟩
theorem tw18081138779251354973:True:=⟨⟩
theorem tw18100283295969611417:True:=⟨⟩
theorem tw18125128294737035143:True:=⟨⟩
theorem tw18164835968555783806:True:=⟨⟩
theorem tw18165431152234640623:True:=⟨⟩
theorem tw18176413224385145225:True:=⟨⟩
theorem tw18177109656662797139:True:=⟨⟩
theorem tw18177665153149118353:True:=⟨⟩
theorem tw18192872963121912645:True:=⟨⟩
theorem tw18215824643853355119:True:=⟨⟩
theorem tw18260194641540637818:True:=⟨⟩
theorem tw18277060748420158845:True:=⟨⟩
theorem tw18282902561792777199:True:=⟨⟩
theorem tw18310999140377845807:True:=⟨⟩
theorem tw1832916270232011604:True:=⟨⟩
theorem tw18331334602107656470:True:=⟨⟩
theorem tw18331532914195504034:True:=⟨⟩
theorem tw18332689328565389885:True:=⟨⟩
theorem tw18345104242076519216:True:=⟨⟩
theorem tw18384547517478447814:True:=⟨⟩
theorem tw18416563613846182222:True:=⟨⟩
theorem tw18419137052163196841:True:=⟨⟩
theorem tw18433677622606106133:True:=⟨⟩
theorem tw1858156416291392539:True:=⟨⟩
theorem tw1894759731626308040:True:=⟨⟩
theorem tw1904360653210494845:True:=⟨⟩
theorem tw1906429620130506887:True:=⟨⟩
theorem tw1909714482019496454:True:=⟨⟩
theorem tw1914692607248247194:True:=⟨⟩
theorem tw1917425121527220963:True:=⟨⟩
theorem tw1919001801439425371:True:=⟨⟩
theorem tw1919890906376249811:True:=⟨⟩
theorem tw1929634836878124385:True:=⟨⟩
theorem tw1937370526825066196:True:=⟨⟩
theorem tw1939405473400901271:True:=⟨⟩
theorem tw1966224132733831507:True:=⟨⟩
theorem tw1970811146720035896:True:=⟨⟩
theorem tw1976755195193171425:True:=⟨⟩
theorem tw1985537357303476512:True:=⟨⟩
theorem tw1992862871153497056:True:=⟨⟩
theorem tw1995287165650055613:True:=⟨⟩
theorem tw2007852463679175192:True:=⟨⟩
theorem tw203279951241792120:True:=⟨⟩
theorem tw2035680199648653684:True:=⟨⟩
theorem tw2041922666546174627:True:=⟨⟩
theorem tw2066564036433440168:True:=⟨⟩
theorem tw2096541523181747872:True:=⟨⟩
theorem tw2118377178292867602:True:=⟨⟩
theorem tw2123727595537733498:True:=⟨⟩
theorem tw2154566216772986472:True:=⟨⟩
theorem tw2172669909848549399:True:=⟨⟩
theorem tw2201313380682377074:True:=⟨⟩
theorem tw2203363585012173787:True:=⟨⟩
theorem tw2224060146885621047:True:=⟨⟩
theorem tw2232109503444375002:True:=⟨⟩
theorem tw2237326684586592538:True:=⟨⟩
theorem tw2241628862621589225:True:=⟨⟩
theorem tw2260579728952749127:True:=⟨⟩
theorem tw2298694737197419510:True:=⟨⟩
theorem tw2307047085170396653:True:=⟨⟩
theorem tw2326617092838664518:True:=⟨⟩
theorem tw2336085555427514152:True:=⟨⟩
theorem tw2340069552987342377:True:=⟨⟩
theorem tw2342417691235652057:True:=⟨⟩
theorem tw2350586252961548244:True:=⟨⟩
theorem tw2355103038987944067:True:=⟨⟩
theorem tw2366605209839970157:True:=⟨⟩
theorem tw2393098407364606883:True:=⟨⟩
theorem tw2393937325987436248:True:=⟨⟩
theorem tw2400818531096893172:True:=⟨⟩
theorem tw2401673296934814795:True:=⟨⟩
theorem tw2413573451304230806:True:=⟨⟩
theorem tw2417591901434828539:True:=⟨⟩
theorem tw2428695696106030784:True:=⟨⟩
theorem tw2437478716016495240:True:=⟨⟩
theorem tw2441957057352720082:True:=⟨⟩
theorem tw2471654206473426777:True:=⟨⟩
theorem tw2506711637615833298:True:=⟨⟩
theorem tw2518057956044344595:True:=⟨⟩
theorem tw2521584445584981976:True:=⟨⟩
theorem tw2529948359932261575:True:=⟨⟩
theorem tw2545145822199252752:True:=⟨⟩
theorem tw2581250870941146908:True:=⟨⟩
theorem tw2588942769649879372:True:=⟨⟩
theorem tw2591067827882107080:True:=⟨⟩
theorem tw2599346099135257874:True:=⟨⟩
theorem tw2624612372273768290:True:=⟨⟩
theorem tw2625984366357065906:True:=⟨⟩
theorem tw262713603470380999:True:=⟨⟩
theorem tw266100023129296208:True:=⟨⟩
theorem tw2694075680205673411:True:=⟨⟩
theorem tw2705560170217086799:True:=⟨⟩
theorem tw2728595385866086531:True:=⟨⟩
theorem tw2753283235347674219:True:=⟨⟩
theorem tw2760189568479381244:True:=⟨⟩
theorem tw2764016085172604524:True:=⟨⟩
theorem tw2770570992077290226:True:=⟨⟩
theorem tw2781723093108153277:True:=⟨⟩
theorem tw2797894973233656403:True:=⟨⟩
theorem tw2821592275122389253:True:=⟨⟩
theorem tw2825341998796452840:True:=⟨⟩
theorem tw284086516184904499:True:=⟨⟩
theorem tw2857895335220236748:True:=⟨⟩
theorem tw2864405669816312776:True:=⟨⟩
theorem tw2876011056497122456:True:=⟨⟩
theorem tw290710125855613696:True:=⟨⟩
theorem tw2907111362388958804:True:=⟨⟩
theorem tw2946737518818760889:True:=⟨⟩
theorem tw2976249973925969801:True:=⟨⟩
theorem tw2994772191003457714:True:=⟨⟩
theorem tw300626226527484142:True:=⟨⟩
theorem tw3014165967379819670:True:=⟨⟩
theorem tw3021114989795446570:True:=⟨⟩
theorem tw3027932573228621659:True:=⟨⟩
theorem tw3040085230504974413:True:=⟨⟩
theorem tw3062044705579621278:True:=⟨⟩
theorem tw3083302935323014018:True:=⟨⟩
theorem tw3088210815446039105:True:=⟨⟩
theorem tw3089916443595474862:True:=⟨⟩
theorem tw3103639331685909893:True:=⟨⟩
theorem tw3122906425038022637:True:=⟨⟩
theorem tw3127049524044150859:True:=⟨⟩
theorem tw3160712208675142370:True:=⟨⟩
theorem tw3164961170700492040:True:=⟨⟩
theorem tw3171451927456968151:True:=⟨⟩
theorem tw3185377453876500656:True:=⟨⟩
theorem tw3212073173673764245:True:=⟨⟩
theorem tw3223962053107752630:True:=⟨⟩
theorem tw322437386772585718:True:=⟨⟩
theorem tw3244951577380529755:True:=⟨⟩
theorem tw3254172550106833301:True:=⟨⟩
theorem tw3264716943610762504:True:=⟨⟩
theorem tw3270352941656771521:True:=⟨⟩
theorem tw3281809517304281197:True:=⟨⟩
theorem tw3290047583113660281:True:=⟨⟩
theorem tw3304075619188804072:True:=⟨⟩
theorem tw3306014811536218513:True:=⟨⟩
theorem tw3307856608211204613:True:=⟨⟩
theorem tw3321875119742208626:True:=⟨⟩
theorem tw3333069708870698940:True:=⟨⟩
theorem tw3340124654517525194:True:=⟨⟩
theorem tw3342127626655828140:True:=⟨⟩
theorem tw3364305129493290686:True:=⟨⟩
theorem tw3368030927266983236:True:=⟨⟩
theorem tw3368474557548986910:True:=⟨⟩
theorem tw3378163378860332797:True:=⟨⟩
theorem tw3401221922045585347:True:=⟨⟩
theorem tw3404819636646143723:True:=⟨⟩
theorem tw3405375401864073989:True:=⟨⟩
theorem tw3453547403478019728:True:=⟨⟩
theorem tw3453787792041028874:True:=⟨⟩
theorem tw3468014072342718959:True:=⟨⟩
theorem tw3496171461512900480:True:=⟨⟩
theorem tw3500380475922496097:True:=⟨⟩
theorem tw3501597964444990463:True:=⟨⟩
theorem tw3512634313551410195:True:=⟨⟩
theorem tw3514389088698752745:True:=⟨⟩
theorem tw3539761223686108643:True:=⟨⟩
theorem tw3547030090768783262:True:=⟨⟩
theorem tw3547811175951651099:True:=⟨⟩
theorem tw3548660455928884018:True:=⟨⟩
theorem tw3581614266968435656:True:=⟨⟩
theorem tw3604701254548876123:True:=⟨⟩
theorem tw3615648651819825313:True:=⟨⟩
theorem tw3616486834168423931:True:=⟨⟩
theorem tw3618040419372981184:True:=⟨⟩
theorem tw3644226017259064516:True:=⟨⟩
theorem tw3651205649096709438:True:=⟨⟩
theorem tw3657744606055017977:True:=⟨⟩
theorem tw3659646283403374670:True:=⟨⟩
theorem tw3665506230870052707:True:=⟨⟩
theorem tw3665862066206961463:True:=⟨⟩
theorem tw3688799982635324794:True:=⟨⟩
theorem tw3696042808614700290:True:=⟨⟩
theorem tw3715144110773694964:True:=⟨⟩
theorem tw3715584954343283195:True:=⟨⟩
theorem tw3746228215898030841:True:=⟨⟩
theorem tw3749026756887285471:True:=⟨⟩
theorem tw377444749377882612:True:=⟨⟩
theorem tw3790771472595898956:True:=⟨⟩
theorem tw380116879960591498:True:=⟨⟩
theorem tw3821945547825155762:True:=⟨⟩
theorem tw3859398291796969178:True:=⟨⟩
theorem tw3863384581746538084:True:=⟨⟩
theorem tw3869590956505411354:True:=⟨⟩
theorem tw3880867118405822719:True:=⟨⟩
theorem tw3910526619309349007:True:=⟨⟩
theorem tw3928599903575798129:True:=⟨⟩
theorem tw3944913497352057107:True:=⟨⟩
theorem tw3973953319845086491:True:=⟨⟩
theorem tw3979787820943753880:True:=⟨⟩
theorem tw3986194592780655508:True:=⟨⟩
theorem tw3991279037241028524:True:=⟨⟩
theorem tw4005429485061764775:True:=⟨⟩
theorem tw4017301010375394790:True:=⟨⟩
theorem tw4018983750718401802:True:=⟨⟩
theorem tw4068010885799345606:True:=⟨⟩
theorem tw4071276723835451856:True:=⟨⟩
theorem tw4090201507572337743:True:=⟨⟩
theorem tw4151447041120621724:True:=⟨⟩
theorem tw4154363929692500862:True:=⟨⟩
theorem tw4160124254940468481:True:=⟨⟩
theorem tw4163069186122357367:True:=⟨⟩
theorem tw4176204533620912855:True:=⟨⟩
theorem tw4196546014268931301:True:=⟨⟩
theorem tw4235852798576303577:True:=⟨⟩
theorem tw4239589573987675453:True:=⟨⟩
theorem tw4273228799998304602:True:=⟨⟩
theorem tw4311042196063409733:True:=⟨⟩
theorem tw4318500180640689126:True:=⟨⟩
theorem tw4357005996527412928:True:=⟨⟩
theorem tw4377270945021899497:True:=⟨⟩
theorem tw4381510469713062047:True:=⟨⟩
theorem tw4387028780061031483:True:=⟨⟩
theorem tw4389056084150536348:True:=⟨⟩
theorem tw4389747894416019800:True:=⟨⟩
theorem tw4405531762615560363:True:=⟨⟩
theorem tw4405734404675932169:True:=⟨⟩
theorem tw4407807290196491609:True:=⟨⟩
theorem tw4415685298772064003:True:=⟨⟩
theorem tw4419558321834357505:True:=⟨⟩
theorem tw4433315090154635215:True:=⟨⟩
theorem tw4473611206160876864:True:=⟨⟩
theorem tw4489203361448125431:True:=⟨⟩
theorem tw45052839361067614:True:=⟨⟩
theorem tw4528443807372415038:True:=⟨⟩
theorem tw4543076655600059902:True:=⟨⟩
theorem tw4554283584077286953:True:=⟨⟩
theorem tw4585157591006285545:True:=⟨⟩
theorem tw4652900348082922388:True:=⟨⟩
theorem tw466721876749952763:True:=⟨⟩
theorem tw4673441458371412756:True:=⟨⟩
theorem tw467416434755642258:True:=⟨⟩
theorem tw4692888973056910177:True:=⟨⟩
theorem tw4693820183103290663:True:=⟨⟩
theorem tw4708111749353345164:True:=⟨⟩
theorem tw4709128311485490483:True:=⟨⟩
theorem tw4764554697811233:True:=⟨⟩
theorem tw4807810042250683422:True:=⟨⟩
theorem tw4834694072379752904:True:=⟨⟩
theorem tw4839655697589452165:True:=⟨⟩
theorem tw4857777746444614323:True:=⟨⟩
theorem tw4874392174073282168:True:=⟨⟩
theorem tw4885112425497105109:True:=⟨⟩
theorem tw4932745802714450591:True:=⟨⟩
theorem tw4945251732147069371:True:=⟨⟩
theorem tw4947412792043415962:True:=⟨⟩
theorem tw4964814941381164201:True:=⟨⟩
theorem tw4965378191221513410:True:=⟨⟩
theorem tw497287684792784471:True:=⟨⟩
theorem tw4973224433832344683:True:=⟨⟩
theorem tw4976181008148175253:True:=⟨⟩
theorem tw4991397462208424806:True:=⟨⟩
theorem tw4993741786232285773:True:=⟨⟩
theorem tw5015311536963163689:True:=⟨⟩
theorem tw5019597260055213698:True:=⟨⟩
theorem tw5038994553942263901:True:=⟨⟩
theorem tw5061997093462229610:True:=⟨⟩
theorem tw5064764789634828332:True:=⟨⟩
theorem tw5080737588221150853:True:=⟨⟩
theorem tw5092371620264689978:True:=⟨⟩
theorem tw5096742575497195690:True:=⟨⟩
theorem tw5104563664521345299:True:=⟨⟩
theorem tw5111174896325423537:True:=⟨⟩
theorem tw5111550220656817904:True:=⟨⟩
theorem tw5129340602016612638:True:=⟨⟩
theorem tw5129616035191883695:True:=⟨⟩
theorem tw5141578139466067413:True:=⟨⟩
theorem tw5172421753618935790:True:=⟨⟩
theorem tw5182153607120983317:True:=⟨⟩
theorem tw5195771902682577575:True:=⟨⟩
theorem tw5210181285589595013:True:=⟨⟩
theorem tw5240702290290941181:True:=⟨⟩
theorem tw5250025526955580050:True:=⟨⟩
theorem tw5255674588194567745:True:=⟨⟩
theorem tw5271886537152271918:True:=⟨⟩
theorem tw5274623360512300857:True:=⟨⟩
theorem tw5319049981483164881:True:=⟨⟩
theorem tw532055438628499158:True:=⟨⟩
theorem tw5331137831679937033:True:=⟨⟩
theorem tw533756555076263647:True:=⟨⟩
theorem tw5353729903917744248:True:=⟨⟩
theorem tw5363715690607933:True:=⟨⟩
theorem tw5392078452651409485:True:=⟨⟩
theorem tw5438144065070405397:True:=⟨⟩
theorem tw545888858418189544:True:=⟨⟩
theorem tw5467695095851852608:True:=⟨⟩
theorem tw5479459121986351116:True:=⟨⟩
theorem tw5487235932777146282:True:=⟨⟩
theorem tw5501060405047882677:True:=⟨⟩
theorem tw5506250874072839755:True:=⟨⟩
theorem tw5515381820778694223:True:=⟨⟩
theorem tw5593727005144783397:True:=⟨⟩
theorem tw5599997604879368025:True:=⟨⟩
theorem tw5612995960945425718:True:=⟨⟩
theorem tw5617373736292572815:True:=⟨⟩
theorem tw5651425540991249520:True:=⟨⟩
theorem tw5658499677264881363:True:=⟨⟩
theorem tw5680469135128100081:True:=⟨⟩
theorem tw5697773043789114877:True:=⟨⟩
theorem tw5707341947614518954:True:=⟨⟩
theorem tw5725584637647431893:True:=⟨⟩
theorem tw5737951250597237232:True:=⟨⟩
theorem tw573967197379146972:True:=⟨⟩
theorem tw5751227541892866231:True:=⟨⟩
theorem tw5764021196749891206:True:=⟨⟩
theorem tw578259024812056932:True:=⟨⟩
theorem tw5788372791699333521:True:=⟨⟩
theorem tw5788964047882338313:True:=⟨⟩
theorem tw5792407227767346561:True:=⟨⟩
theorem tw5844781237557850387:True:=⟨⟩
theorem tw5853483612964156811:True:=⟨⟩
theorem tw5865467396996320769:True:=⟨⟩
theorem tw5869485362099743711:True:=⟨⟩
theorem tw5870146547769353613:True:=⟨⟩
theorem tw5874639182527098836:True:=⟨⟩
theorem tw5881713671565795756:True:=⟨⟩
theorem tw5894247764576360081:True:=⟨⟩
theorem tw5901594920499545818:True:=⟨⟩
theorem tw5906241406904858968:True:=⟨⟩
theorem tw5915552362696249034:True:=⟨⟩
theorem tw5916404902352869828:True:=⟨⟩
theorem tw5927865893512547691:True:=⟨⟩
theorem tw5944575059761466720:True:=⟨⟩
theorem tw5973763720392745831:True:=⟨⟩
theorem tw5987550445186205895:True:=⟨⟩
theorem tw5996384718915585738:True:=⟨⟩
theorem tw604627371996746742:True:=⟨⟩
theorem tw6053349399257934933:True:=⟨⟩
theorem tw6053997905714604814:True:=⟨⟩
theorem tw6085824867444503733:True:=⟨⟩
theorem tw6088685845774392931:True:=⟨⟩
theorem tw6099028997845504075:True:=⟨⟩
theorem tw6110071263904590700:True:=⟨⟩
theorem tw6121141971511671821:True:=⟨⟩
theorem tw6153569298028143949:True:=⟨⟩
theorem tw6157079530059567975:True:=⟨⟩
theorem tw6174258528820157971:True:=⟨⟩
theorem tw6202090305015876224:True:=⟨⟩
theorem tw6202622434921078099:True:=⟨⟩
theorem tw6212921109956642855:True:=⟨⟩
theorem tw6215453301258677876:True:=⟨⟩
theorem tw6216518314043141356:True:=⟨⟩
theorem tw6226413525154113608:True:=⟨⟩
theorem tw6229939688011154569:True:=⟨⟩
theorem tw6232644224018631296:True:=⟨⟩
theorem tw6237802210402583469:True:=⟨⟩
theorem tw6240353410654795137:True:=⟨⟩
theorem tw6247268493268985975:True:=⟨⟩
theorem tw6260244149815935644:True:=⟨⟩
theorem tw6265338273532641288:True:=⟨⟩
theorem tw6298033893332097587:True:=⟨⟩
theorem tw6304676298305806467:True:=⟨⟩
theorem tw6307057079134178644:True:=⟨⟩
theorem tw6327039764776113722:True:=⟨⟩
theorem tw6342581108930332356:True:=⟨⟩
theorem tw6369041477666114370:True:=⟨⟩
theorem tw6379358179555706155:True:=⟨⟩
theorem tw6388477656530123435:True:=⟨⟩
theorem tw6402496994288996404:True:=⟨⟩
theorem tw6426539377367359892:True:=⟨⟩
theorem tw6474009502463322548:True:=⟨⟩
theorem tw649443455394278489:True:=⟨⟩
theorem tw6497301856786237229:True:=⟨⟩
theorem tw6511893084456135703:True:=⟨⟩
theorem tw6518409114910312394:True:=⟨⟩
theorem tw6521490308693473283:True:=⟨⟩
theorem tw6526830475164118762:True:=⟨⟩
theorem tw6536181036136497285:True:=⟨⟩
theorem tw6544681653968885310:True:=⟨⟩
theorem tw6562009823351158392:True:=⟨⟩
theorem tw6581712109270413358:True:=⟨⟩
theorem tw6585138550035349233:True:=⟨⟩
theorem tw6587087628758450585:True:=⟨⟩
theorem tw6595020158993437323:True:=⟨⟩
theorem tw6595276589069765893:True:=⟨⟩
theorem tw6600165084710513979:True:=⟨⟩
theorem tw6602476347957198060:True:=⟨⟩
theorem tw6604829842348296887:True:=⟨⟩
theorem tw6638625709723660006:True:=⟨⟩
theorem tw6640010369347007910:True:=⟨⟩
theorem tw6668890000431947556:True:=⟨⟩
theorem tw6684681932595197013:True:=⟨⟩
theorem tw6684978435548883818:True:=⟨⟩
theorem tw6692803169904595997:True:=⟨⟩
theorem tw67086481866811729:True:=⟨⟩
theorem tw6731557136300432596:True:=⟨⟩
theorem tw6751290297309308749:True:=⟨⟩
theorem tw6763335052953634553:True:=⟨⟩
theorem tw6772502638888315869:True:=⟨⟩
theorem tw6791874446421159577:True:=⟨⟩
theorem tw6836605351468522007:True:=⟨⟩
theorem tw6846866878297920324:True:=⟨⟩
theorem tw6847273489543275152:True:=⟨⟩
theorem tw6857060684267632606:True:=⟨⟩
theorem tw6870361546347238192:True:=⟨⟩
theorem tw6871339299614917876:True:=⟨⟩
theorem tw6880043348581005364:True:=⟨⟩
theorem tw6889739017440866108:True:=⟨⟩
theorem tw6891450509433485068:True:=⟨⟩
theorem tw6903330171164945697:True:=⟨⟩
theorem tw6925956493692337269:True:=⟨⟩
theorem tw6930615606355531631:True:=⟨⟩
theorem tw6931653728971238233:True:=⟨⟩
theorem tw6968674436765558698:True:=⟨⟩
theorem tw697593947973469745:True:=⟨⟩
theorem tw69809265629811306:True:=⟨⟩
theorem tw7013799640231393816:True:=⟨⟩
theorem tw7046380642943354848:True:=⟨⟩
theorem tw708152393587867187:True:=⟨⟩
theorem tw7090939061502383884:True:=⟨⟩
theorem tw709382114072422158:True:=⟨⟩
theorem tw7096138990903361605:True:=⟨⟩
theorem tw7119846925741900413:True:=⟨⟩
theorem tw7148437315225170067:True:=⟨⟩
theorem tw7156519585557434892:True:=⟨⟩
theorem tw7161073391023584161:True:=⟨⟩
theorem tw7179252675378151715:True:=⟨⟩
theorem tw7181452741857391679:True:=⟨⟩
theorem tw7195933706287572923:True:=⟨⟩
theorem tw7218757217702219634:True:=⟨⟩
theorem tw722688901398713392:True:=⟨⟩
theorem tw7237916720857940274:True:=⟨⟩
theorem tw7253898381062576733:True:=⟨⟩
theorem tw7256407767356113836:True:=⟨⟩
theorem tw7272792461964422541:True:=⟨⟩
theorem tw7273171245171862726:True:=⟨⟩
theorem tw7277520189549225825:True:=⟨⟩
theorem tw7287109101882759415:True:=⟨⟩
theorem tw7309950759910210094:True:=⟨⟩
theorem tw7313386461004707312:True:=⟨⟩
theorem tw733406405333840765:True:=⟨⟩
theorem tw7358512011923840914:True:=⟨⟩
theorem tw7392004362435642628:True:=⟨⟩
theorem tw739537129135343663:True:=⟨⟩
theorem tw7396500232308049434:True:=⟨⟩
theorem tw7404141018258913797:True:=⟨⟩
theorem tw7415321957212557323:True:=⟨⟩
theorem tw7417405269818204032:True:=⟨⟩
theorem tw7421959067914383049:True:=⟨⟩
theorem tw742351954350328859:True:=⟨⟩
theorem tw7447869477702799209:True:=⟨⟩
theorem tw7450023128482652576:True:=⟨⟩
theorem tw7459580235894062507:True:=⟨⟩
theorem tw7492340954919836559:True:=⟨⟩
theorem tw7494366503370351645:True:=⟨⟩
theorem tw7498250532897285284:True:=⟨⟩
theorem tw7523532297153676066:True:=⟨⟩
theorem tw7575806435727305068:True:=⟨⟩
theorem tw7582878936473852414:True:=⟨⟩
theorem tw7596824489109172434:True:=⟨⟩
theorem tw7599496313472250701:True:=⟨⟩
theorem tw7624658959004494543:True:=⟨⟩
theorem tw7627683417492964911:True:=⟨⟩
theorem tw7656372460463219624:True:=⟨⟩
theorem tw7658410731251134818:True:=⟨⟩
theorem tw7661765248129044261:True:=⟨⟩
theorem tw7680146299302783591:True:=⟨⟩
theorem tw7688317290187622652:True:=⟨⟩
theorem tw7704315382344345624:True:=⟨⟩
theorem tw7705420606127192585:True:=⟨⟩
theorem tw7732209734871044160:True:=⟨⟩
theorem tw7734086686654790897:True:=⟨⟩
theorem tw7743085818281968155:True:=⟨⟩
theorem tw7748693106545578708:True:=⟨⟩
theorem tw7758381527925395934:True:=⟨⟩
theorem tw778927853757940227:True:=⟨⟩
theorem tw7789450098604059249:True:=⟨⟩
theorem tw779419810087314491:True:=⟨⟩
theorem tw7802898811600756450:True:=⟨⟩
theorem tw780477332936465449:True:=⟨⟩
theorem tw7804983522585807867:True:=⟨⟩
theorem tw7805308653706644653:True:=⟨⟩
theorem tw7835671542029378175:True:=⟨⟩
theorem tw7885897083568230588:True:=⟨⟩
theorem tw7893992939808209232:True:=⟨⟩
theorem tw7906546307943345882:True:=⟨⟩
theorem tw792300799171563205:True:=⟨⟩
theorem tw7928285938522686346:True:=⟨⟩
theorem tw7940748693946456147:True:=⟨⟩
theorem tw7960053054240918295:True:=⟨⟩
theorem tw7961726388155042601:True:=⟨⟩
theorem tw797404776988869559:True:=⟨⟩
theorem tw7992697801930647134:True:=⟨⟩
theorem tw7994106446794305319:True:=⟨⟩
theorem tw801906712849415907:True:=⟨⟩
theorem tw8041981036286801607:True:=⟨⟩
theorem tw8047331064198847621:True:=⟨⟩
theorem tw8047541715743884091:True:=⟨⟩
theorem tw8062929857114545703:True:=⟨⟩
theorem tw807142644699662319:True:=⟨⟩
theorem tw8086450761072817414:True:=⟨⟩
theorem tw8100529080337985053:True:=⟨⟩
theorem tw8101760021730824546:True:=⟨⟩
theorem tw8119138517388224971:True:=⟨⟩
theorem tw8169693465737517768:True:=⟨⟩
theorem tw8172283286065499403:True:=⟨⟩
theorem tw8182079617134344778:True:=⟨⟩
theorem tw8182465387277545410:True:=⟨⟩
theorem tw8185714761375850791:True:=⟨⟩
theorem tw8187629637223713605:True:=⟨⟩
theorem tw820421773197932041:True:=⟨⟩
theorem tw8216834362191484069:True:=⟨⟩
theorem tw8264559056461403633:True:=⟨⟩
theorem tw8298956036677137903:True:=⟨⟩
theorem tw8299393411229908732:True:=⟨⟩
theorem tw829941438253678028:True:=⟨⟩
theorem tw8337448324364255386:True:=⟨⟩
theorem tw8341345799197769705:True:=⟨⟩
theorem tw8382746154173761051:True:=⟨⟩
theorem tw8402328212356670530:True:=⟨⟩
theorem tw8408249889716310983:True:=⟨⟩
theorem tw8409189969818401543:True:=⟨⟩
theorem tw8414573866900348196:True:=⟨⟩
theorem tw8451290768687142514:True:=⟨⟩
theorem tw8476099583838051002:True:=⟨⟩
theorem tw8476951943066225111:True:=⟨⟩
theorem tw8497721794823489343:True:=⟨⟩
theorem tw8518231567759158271:True:=⟨⟩
theorem tw8541356943393881859:True:=⟨⟩
theorem tw8546719886708726068:True:=⟨⟩
theorem tw8549075639274686408:True:=⟨⟩
theorem tw8550467674348477657:True:=⟨⟩
theorem tw8586521899292070991:True:=⟨⟩
theorem tw8595470254474955868:True:=⟨⟩
theorem tw860298348326699438:True:=⟨⟩
theorem tw8627200689577751383:True:=⟨⟩
theorem tw86301839051661876:True:=⟨⟩
theorem tw8671685427711848851:True:=⟨⟩
theorem tw8704771223992077307:True:=⟨⟩
theorem tw8715499118904818895:True:=⟨⟩
theorem tw8773370040425892893:True:=⟨⟩
theorem tw8796753266530204203:True:=⟨⟩
theorem tw8812732774380208333:True:=⟨⟩
theorem tw8838475285390394957:True:=⟨⟩
theorem tw883913982201973750:True:=⟨⟩
theorem tw8874674299285249911:True:=⟨⟩
theorem tw890905387884194350:True:=⟨⟩
theorem tw8912104118211102971:True:=⟨⟩
theorem tw8943219189493157100:True:=⟨⟩
theorem tw8988664977312594650:True:=⟨⟩
theorem tw9005204637564801583:True:=⟨⟩
theorem tw9056860215390897720:True:=⟨⟩
theorem tw90575161674971029:True:=⟨⟩
theorem tw9062998866958442273:True:=⟨⟩
theorem tw9065935926736091543:True:=⟨⟩
theorem tw9074772780463953568:True:=⟨⟩
theorem tw9082462177598256812:True:=⟨⟩
theorem tw9083612298779875492:True:=⟨⟩
theorem tw9101448428047585222:True:=⟨⟩
theorem tw9103479521544129834:True:=⟨⟩
theorem tw9107825763807709430:True:=⟨⟩
theorem tw9114333099845857663:True:=⟨⟩
theorem tw9133290819911140118:True:=⟨⟩
theorem tw9162278640276766204:True:=⟨⟩
theorem tw9171846695823722306:True:=⟨⟩
theorem tw9186546921256032858:True:=⟨⟩
theorem tw9197122456581196581:True:=⟨⟩
theorem tw9202431907968578930:True:=⟨⟩
theorem tw9213911765573242809:True:=⟨⟩
theorem tw9234455393454914656:True:=⟨⟩
theorem tw9258293945399652946:True:=⟨⟩
theorem tw9280153536138602973:True:=⟨⟩
theorem tw9297382265435449532:True:=⟨⟩
theorem tw930087139818521243:True:=⟨⟩
theorem tw9318794584737855082:True:=⟨⟩
theorem tw9325057278558614444:True:=⟨⟩
theorem tw9325123708862168440:True:=⟨⟩
theorem tw9353324838224930552:True:=⟨⟩
theorem tw9354026244260953042:True:=⟨⟩
theorem tw9380374249521086144:True:=⟨⟩
theorem tw9388430590476628193:True:=⟨⟩
theorem tw940147379719373870:True:=⟨⟩
theorem tw9407594320385231609:True:=⟨⟩
theorem tw9431614861159355217:True:=⟨⟩
theorem tw9449176361245260279:True:=⟨⟩
theorem tw9464831228461672588:True:=⟨⟩
theorem tw946586880256125082:True:=⟨⟩
theorem tw9493678621577581731:True:=⟨⟩
theorem tw9495540839478616804:True:=⟨⟩
theorem tw9515422150858430662:True:=⟨⟩
theorem tw9553506758532729402:True:=⟨⟩
theorem tw9575541623215731522:True:=⟨⟩
theorem tw957920728692688272:True:=⟨⟩
theorem tw9592777112578238593:True:=⟨⟩
theorem tw9601497413559074677:True:=⟨⟩
theorem tw9610264321537646536:True:=⟨⟩
theorem tw9613649512242289415:True:=⟨⟩
theorem tw9625377726130185387:True:=⟨⟩
theorem tw9644850379433450445:True:=⟨⟩
theorem tw9646481798937456297:True:=⟨⟩
theorem tw9655098249580616457:True:=⟨⟩
theorem tw9698977904933032859:True:=⟨⟩
theorem tw9701577420580846637:True:=⟨⟩
theorem tw9716329373054682134:True:=⟨⟩
theorem tw9717200733822644074:True:=⟨⟩
theorem tw9718778162690014751:True:=⟨⟩
theorem tw9743709737119245314:True:=⟨⟩
theorem tw9746458257258439470:True:=⟨⟩
theorem tw9767149119325585590:True:=⟨⟩
theorem tw9777900189565919194:True:=⟨⟩
theorem tw9795251257728629362:True:=⟨⟩
theorem tw9820158181544301314:True:=⟨⟩
theorem tw9823536610671039419:True:=⟨⟩
theorem tw9827913525700040407:True:=⟨⟩
theorem tw9838509708139735780:True:=⟨⟩
theorem tw9867840190021597282:True:=⟨⟩
theorem tw9881340216297992761:True:=⟨⟩
theorem tw9885750084120196852:True:=⟨⟩
theorem tw9894326130215728876:True:=⟨⟩
theorem tw9909477652473797434:True:=⟨⟩
theorem tw9942188429317320347:True:=⟨⟩
theorem tw9966027542202029443:True:=⟨⟩
theorem tw9978949632667528635:True:=⟨⟩
theorem tw9983174893691179580:True:=⟨⟩
theorem tw9984397402777080727:True:=⟨⟩
theorem tw9987851973559822609:True:=⟨⟩
theorem tw999222835498014148:True:=⟨⟩
theorem tw9997931420998421608:True:=⟨⟩
end Mine.head
open PySem PySem.W PySem.Calls PyProof.Rows
set_option maxRecDepth 100000 in
set_option maxHeartbeats 8000000 in
theorem Mine.head : PySem.Challenge.rw_ru0005_01.Holds := by
  w_on; o_law; k_head; (case hw => w_witness2)
  w_strict (k_go0
            refine Mine.law_walk (mb := ?zqmb) (mg := ?zqmg) (loose := ?zqloose) (p := ?zqp) (ns := ?zqns) (vs := ?zqvs) (y := ?zqy) (a := ?zqa) (h₁ := ?zqh1) (K0 := ?zqK0) ?zqO ?zqKX ?zqtop ?zqB ?zqhL ?zqhI ?zqhlen ?zqF ?zqhy ?zqN0 ?zqhb ?zqhsc ?zqhs ?zqht ?zqhQ
            case zqKX => assumption
            case zqB => assumption
            case zqF => assumption
            case zqN0 => assumption
            case zqhL => assumption
            case zqhI => assumption
            case zqhlen => omega
            case zqtop => exact topRead_of (by assumption)
            case zqhy => kernel_rfl
            case zqhb => kernel_rfl
            case zqhsc => kernel_rfl
            case zqhs => rfl
            case zqht =>
              first
                | exact ⟨Nat.lt_of_lt_of_le Nat.one_pos (Nat.le_add_left 1 _)⟩
                | exact ⟨Nat.succ_pos _⟩
            case zqhQ => intro s' hk ho hg'; exact Mine.good_true hk ho (hg'.trans (by assumption))
            case zqO => intro o; exact Mine.KAll.of (by kernel_rfl) (by kernel_rfl) (by kernel_rfl) (by kernel_rfl) (by kernel_rfl) (by kernel_rfl) (by kernel_rfl) (by kernel_rfl) (by kernel_rfl) (by kernel_rfl) (by kernel_rfl) (by kernel_rfl) (by kernel_rfl) (by kernel_rfl) (by kernel_rfl) (by kernel_rfl) (by kernel_rfl))
theorem PySem.Challenge.cw_ru0005_01_holds : PySem.Challenge.rw_ru0005_01.Holds :=
  Mine.head
