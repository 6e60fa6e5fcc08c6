import PyProof.Rows.All
import Wide.All
import OpenK.AllK
import Wide.FinOn
import Lean
import PySem.Challenge.RW_il0022_01
open PySem PySem.W PyProof.Rows PySem.Spec PySem.Calls
set_option Elab.async false
set_option maxRecDepth 100000
set_option maxHeartbeats 8000000
set_option linter.unusedVariables false
namespace Mine
theorem kwz:True:=by
 k_with "00"=>(case k6=>k_is);(case k7=>k_is);(case k8=>show dp<1000;exact Ar.upT ‹_› (by rfl));(case k9=>exact BindsTo.of_eq rfl);(case c5=>decide);(case kB=>exact locs rfl);(case c2=>exact rfl);(case c3=>exact rfl);(case c4=>exact rfl)
 k_with "01"=>simp only [List.mem_cons,List.not_mem_nil,or_false] at hq
 k_with "02"=>rcases List.mem_cons.mp hp with rfl|hp
 k_with "03"=>refine Stop.go ?_
 k_with "04"=>(case m=>intro q hq;cases hq with|head=>exact⟨hd1,hd0⟩|tail _ hq=>cases hq)
 k_with "05"=>(case m=>(intro q hq;simp only [List.mem_cons,List.not_mem_nil,or_false] at hq;rcases hq with rfl|rfl|rfl<;>first|exact⟨by assumption,by assumption,by assumption⟩|exact⟨by assumption,by assumption,nf (by assumption) (fun es n q=>by first|(rw [dI] at q;cases q)|cases q)⟩))
 k_with "06"=>refine wpAny_bind (wpAny_attempt (wpAny_callSpecial?_slot (name:=Str.ofString "__next__") hT F.slot_zip_next (wpAny_call_entry F.slot_zip_next hT F.entry_zip_next ?_ (F.args_zip_next_1 _))))
 k_with "07"=>rcases List.mem_cons.mp hq with rfl|hq
 k_with "08"=>(case k6=>k_is);(case k7=>k_is);(case k8=>show dp<1000;exact Ar.upT ‹_› (by rfl));(case k9=>exact kp_binds (X.keeps kb) (fun _=>rfl))
 k_with "09"=>refine codeAny_loop rfl (fun n s'=>∃h₁ tk₁ m₁ nw₁,s'={s with heap:=h₁,toks:=tk₁}∧Fr g' C h₁ m₁∧News g' C h₁ nw₁∧J n tk₁ m₁ nw₁) (fun n s' hI=>?_) n₀ ⟨s.heap,s.toks,m,nw,rfl,F,N,hJ⟩
 k_with "0a"=>rename News _ _ _ _=>N5
 k_with "0b"=>(case kB=>exact rfl);(case kD=>decide+kernel);(case c2=>exact rfl);(case c3=>exact rfl);(case c4=>exact rfl)
 k_with "0c"=>refine h2 e h' ⟨?_,fun b o e=>he' b o (fun q=>?_) (F.keep b o e),F.above⟩ fun p hp=>⟨he' _ _ (hne p hp) (N p (.tail _ hp)).1,(N p (.tail _ hp)).2⟩
 k_with "0d"=>(case m=>(intro q hq;simp only [List.mem_cons,List.not_mem_nil,or_false] at hq;rcases hq with rfl|rfl|rfl|rfl|rfl<;>first|exact⟨by assumption,by assumption,by assumption⟩|exact⟨by assumption,by assumption,nf (by assumption) (fun es n q=>by first|(rw [dI] at q;cases q)|cases q)⟩))
 k_with "0e"=>rename Fr _ _ _ _=>F5
 k_with "0f"=>intro g L' h₁ F N X' T' keep lt le
 k_with "0g"=>intro clo_ g L' h₁ p_ F N X' T' keep lt le
 k_with "0h"=>intro clo_ g L' h₁ p_ F N X' T' B' Dt keep lt le
 k_with "0i"=>refine⟨_,_,_,_,_,_,_,F6,N6,⟨rfl,rfl,congrArg (fun z:Nat=>some (Value.int z _)) sl,rfl,congrArg (fun z:Nat=>some (Value.int ((z:Int)+1) _)) sl,trivial⟩,by assumption,l6 _ (.head _),l6 _ mm1,l6 _ mm2,?_,?_⟩<;>omega
 k_with "0j"=>exact AZ.intro F9 N9 (n':=k-1) (by exact Ar.zcdP ‹_› ‹_›) ⟨i+1,_,_,by exact Ar.zcd ‹_› ‹_›,Hv,by rw [List.length_append,hus];rfl,Cb hus hall,⟨rfl,rfl,rfl,rfl,rfl,trivial⟩⟩
 k_with "0k"=>(case m=>(intro q hq;cases hq with|head=>exact⟨hd1,hd0,An SD.dicts hd1 rfl⟩|tail _ hq=>cases hq))
 k_with "0l"=>refine wpAny_bind (wpAny_standAt (wpAny_bind (wpAny_mono (turn n tk₁ m₁ nw₁ h₁ F₁ N₁ J₁) (fun r s₁ hr=>?_) fun _ _ h'=>h'.elim)))
 k_with "0m"=>have hκ':∀a∈as,Bc g a (κ a):=fun a ha=>(hκ a ha).2.keep fun o e=>keep a o e (by simp [(hκ a ha).1])
 k_with "0n"=>refine AP F7 N7 (.tail nID (.head neD)) (by exact Ar.upEL ‹_› ‹_› (by rfl)) fun h8 F8 N8=>?_
 k_with "0o"=>obtain⟨cells,NC,Y⟩:=Cl.news (h₀:=s.heap) (Nat.le_refl _) fun n c hm=>⟨x.cell n c (lookup_of_mem_nodup (cellsFrom_names scope.names 0 (s.heap.objs.size+1) [] [] rfl▸hnd) hm),x.above n c hm⟩
 k_with "0p"=>refine JX J (fun n acc s₁ hj=>?_) n₀ [] _ _ (hJ _ (fun b o hb e=>(Heap.get?_update_other _ _ (Ne.symm hb)).trans ((Heap.get?_update_other _ _ (Ne.symm hb)).trans e)) ⟨_,hS₃⟩) hS₃
 k_with "0q"=>refine wpAny_bind (wpAny_isInstance (T:= "StopIteration") (b:=true) ⟨o,ho,hc⟩ isSubtype_stop ?_)
 k_with "0r"=>dsimp only [DI]
 k_with "0s"=>refine Bm (d:=V) (n:=cc) (v:=.int (VN.getD j 0) (BE (zs.getD j .none))) N6 mm10 (by exact Ar.z0) (by exact Ar.zupL ‹_› (by decide)) (by rw [Int.toNat_natCast];exact hz) ?_
 k_with "0t"=>refine⟨fun s' hs' Q E hQ=>wpAny_pyIter_listiter (l:=d) (i:=0) ⟨_,hs' _ _ (N9 _ (.head _)).1,rfl,rfl⟩ hQ,_,F9,N9,?_⟩
 k_with "0u"=>exact⟨hs'.extBut _ _ (hne p hp) (N p (.tail _ hp)).1,(N p (.tail _ hp)).2⟩
 k_with "0v"=>intro g L' h₁ F N X' T' B' Dt keep lt le
 k_with "0w"=>(case k6=>k_is);(case k7=>k_is);(case k8=>show dp<1000;exact Ar.upT ‹_› (by rfl));(case k9=>exact BindsTo.of_eq rfl)
 k_with "0x"=>rename News _ _ _ _=>N6
 k_with "0y"=>refine⟨fun n s'=>AZ g L s₂ (fun k m nw=>k=n∧J k m nw) (n+1) s',fun n=>AZ g L s₂ J n,n₀,.mk _ _ _ _ n₀ rfl F N (Nat.lt_succ_self _) ⟨rfl,hJ⟩,?_,?_⟩
 k_with "0z"=>refine wpAny_comprehension_free (use:=none) rfl hs hclos hkind hnames (wpAny_mono h (fun xv s₁ h₁=>wpAny_mono h₁ (fun it s₂ h₂=>?_) fun _ _ e=>e) fun _ _ e=>e)
 k_with "0A"=>refine callType_newIn F.called_zip (by decide) (F.typeCall_zip_2 _ _) (F.newCall_zip_2 _ _) (fun obj=>F.args_object_init_3 obj _ _) F.entry_zip_new (GV _ _) ?_
 k_with "0B"=>have kS:∀o,h1.get? s.heap.objs.size=some o→h7.get? s.heap.objs.size=some o:=fun o e=>U7.out e (by simp [nS.1,nS.2.1,nS.2.2.1,nS.2.2.2.1,(sS d (by simp)).symm]) nfS
 k_with "0C"=>rename News _ _ _ _=>N8
 k_with "0D"=>refine wpAny_call ?_
 k_with "0E"=>(case c5=>decide);(case kB=>(intro y hy;have e:=hnm y hy;revert e;generalize y.1=z;revert z;decide));(case c2=>exact rfl);(case c3=>exact rfl);(case c4=>exact rfl)
 k_with "0F"=>refine BK rfl F₂ N₂ (List.forall_mem_cons.mpr ⟨nID.symm,neI⟩) ?_ ?_
 k_with "0G"=>rename Fr _ _ _ _=>F6
 k_with "0H"=>simp only [List.mem_cons,List.not_mem_nil,or_false,not_or]
 k_with "0I"=>refine Ao rfl F₅ N₅ cK dK ⟨_,(N₅ (d,listOf vs.toArray n) (by simp)).1,rfl,n,rfl⟩ (List.forall_mem_cons.mpr ⟨nID2.symm,neI2⟩) ?_ ?_
 k_with "0J"=>exact⟨⟨oL,es,ep,hs''.extBut _ _ (Ne.symm hCL) hL,r⟩,fun b o e=>hs''.extBut b o (fun q=>by rw [q,hCg] at e;cases e) (FL.keep b o e),FL.above⟩
 k_with "0K"=>exact⟨⟨oL,es,ep,hs''.extBut _ _ (Ne.symm hCL) hL,r⟩,fun b o e=>hs''.extBut b o (fun q=>by rw [q,hCg] at e;cases e) (F2.keep b o e),F2.above⟩
 k_with "0L"=>refine Ep (c:=.none) ho hc slot_listiter_next (wpAny_call_entry slot_listiter_next hit.typeIs entry_listiter_next ?_ (args_listiter_next _))
 k_with "0M"=>obtain⟨o',es,n',e',d'⟩:=S.dicts b m
 k_with "0N"=>refine⟨rfl,_,_,F3,N3,fun h4 F4 N4=>?_⟩
 k_with "0O"=>refine wpAny_execs_cons (Aj ?_)
 k_with "0P"=>rcases List.mem_cons.mp hb with rfl|hb
 k_with "0Q"=>show wpAny _ _ (Builtin.SmallTypes.nextOf i1>>=_) _ _ _
 k_with "0R"=>show ForTurn _ _ _ _ _ _ _ _ _ _ _ _ _ _ _ _
 k_with "0S"=>rename Fr _ _ _ _=>F8
 k_with "0T"=>refine⟨fun s' hs' Q E hQ=>wpAny_pyIter_rangeiter (hs' _ _ (N9 _ (.head _)).1) hQ,_,F9,N9,?_⟩
 k_with "0U"=>intro pick_ w dp un fr gd s loose mz mg mb Q E hb d vs ns n tn
 k_with "0V"=>have st:∀b o,g.get? b=some o→(hideAll s.heap (news.map (·.1))).get? b=some o:=fun b o e=>hideAll_get _ (F.keep b o e) (gsub b o e)
 k_with "0W"=>have hsz:∀b o,h4.get? b=some o→b≠h4.objs.size:=fun b o e=>Nat.ne_of_lt (Heap.lt_size e)
 k_with "0X"=>have ei:(Aa ns)[i]=(ns[i],(i:Int)):=by have:=Ba hi';rw [List.getElem?_eq_getElem hi] at this;exact Option.some.inj this
 k_with "0Y"=>have ej:(Aa ns)[j]=(ns[j],(j:Int)):=by have:=Ba hj';rw [List.getElem?_eq_getElem hj] at this;exact Option.some.inj this
 k_with "0Z"=>refine' Ag (binds:= [(Str.ofString "data",.ref d)]) [(d,listOf vs.toArray n)] kb X T ?m ?k6 ?k7 ?k8 ?k9 ?kB ?_ ?c2 ?c3 ?c4 ?c5
 k_with "010"=>show wpAny _ _ (Builtin.SmallTypes.ownedTupleIsFree (.ref z)>>=_) _ _ _
 k_with "011"=>refine hRR _ _ _ _ m' nw' F' N' st ⟨_,hLg⟩ FL (fun p hp=>⟨(N' p hp).1,fun q=>?_,?_⟩) hCg hCL (fun p hp=>(N' p hp).2.1) hK
 k_with "012"=>refine BU F8 rfl (BI.plain (by decide) rfl) rfl (by decide) ?_
 k_with "013"=>refine wpAny_bind (wpAny_mono h₂ (fun _ s₃ h₃=>wpAny_bind ?_) fun _ _ h'=>h'.elim)
 k_with "014"=>exact⟨ocl eD hx cD rfl rfl,ocl eD hdd cD rfl rfl,ocl eD hI (by first|exact cD|exact cI) (by first|exact cD|exact cI) rfl⟩
 k_with "015"=>simp only [List.cons_append,List.nil_append] at N
 k_with "016"=>refine⟨fun s' hs' Q E hQ=>wpAny_pyIter_listiter (l:=D) (i:=0) ⟨_,hs' _ _ (N9 _ (.head _)).1,rfl,rfl⟩ hQ,_,F9,N9,?_⟩
 k_with "017"=>have m1:@Ne Nat x d:=ocl hx hdd rfl rfl rfl
 k_with "018"=>rcases List.mem_append.mp hk with hk|hk
 k_with "019"=>refine wpAny_For (wpAny_mono h (fun xv s₁ h₁=>wpAny_mono h₁ (fun it s₂ h₂=>?_) fun _ _ e=>e) fun _ _ e=>e) hs
 k_with "01a"=>have below:∀b,b<s.heap.objs.size→b≠H2.objs.size:=fun b hb=>by rw [hC];exact Nat.ne_of_lt (Nat.lt_succ_of_lt hb)
 k_with "01b"=>rename News _ _ _ _=>N7
 k_with "01c"=>have FL:Fr g L s'.heap m:=⟨⟨oL,es,ep,F'.keep _ _ hLg,hLd,hLk,hLf⟩,fun b o e=>F'.keep b o (st b o e),F.above⟩
 k_with "01d"=>obtain⟨o,z,e,c,d⟩:=hi;rw [e] at hI;cases hI;exact⟨c,_,d⟩
 k_with "01e"=>have hl:s.heap.IsList d (as.map Value.ref).toArray:=⟨_,(N _ hm).1,rfl,n,rfl⟩
 k_with "01f"=>have hj9:j=9:=by have:=List.getElem?_eq_none_iff.mp hx;rw [AC hi,hne] at this;exact Ar.ce ‹_› ‹_›
 k_with "01g"=>exact⟨hk₁ _ _ (hm p hp).1,Nat.ne_of_lt (Heap.lt_size (hm p hp).1),hideAll_none _ (List.mem_map_of_mem hp)⟩
 k_with "01h"=>refine wpAny_bind (wpAny_field hz rfl (x:=.bool false) rfl ?_)
 k_with "01i"=>refine wpAny_bind (wpAny_bind (wpAny_bind (wpAny_holding ?_)))
 k_with "01j"=>refine' Am (binds:= [(Str.ofString "it",.ref I)]) [(I,oI)] S X T ?m ?k6 ?k7 ?k8 ?k9 ?kB ?_ ?c2 ?c3 ?c4 ?c5
 k_with "01k"=>obtain⟨o,e,c,d⟩:=hi;rw [e] at hI;cases hI;exact⟨c,_,d⟩
 k_with "01l"=>show CO _ _ _ _ _ _ _ _ _ _ _ _
 k_with "01m"=>intro clo_ h3 p_ F3 N3
 k_with "01n"=>refine⟨m',F'.ns,fun h'' hs''=>hK h'' ?_ fun p hp=>⟨hs''.extBut _ _ (hne p hp) (NL p hp).1,(NL p hp).2⟩⟩
 k_with "01o"=>have h0:Builtin.List.listSameRef (.ref s.heap.objs.size) (.ref I)=false:=by simp [Builtin.List.listSameRef,hSI]
 k_with "01p"=>rename News _ _ _ _=>N9
 k_with "01q"=>rw [show Cv κ (p.getD m 0) (p.getD (m-1) 0)=false from decide_eq_false hc];dsimp only;rw [if_neg (by simp)]
 k_with "01r"=>have hglen:((as.drop p).take (q-p)).length=q-p:=by rw [List.length_take,List.length_drop];exact Ar.mnS ‹_›
 k_with "01s"=>refine' Ag (binds:= [(Str.ofString "mode",.int b t)]) [] kb X T ?m ?k6 ?k7 ?k8 ?k9 ?kB ?_ ?c2 ?c3 ?c4 ?c5
 k_with "01t"=>refine Dd F3 N3 (fun h4 tk4 F4 N4=>?_) rfl rfl
 k_with "01u"=>refine AP F7 N7 (.tail nID2 (.head neD2)) (by exact Ar.upEL ‹_› ‹_› (by rfl)) fun h8 F8 N8=>?_
 k_with "01v"=>show wpAny _ _ (field (.ref it) 0>>=_) _ _ s
 k_with "01w"=>refine' Ag (binds:= [(Str.ofString "self",.ref G)]) [] kb X T ?m ?k6 ?k7 ?k8 ?k9 ?kB ?_ ?c2 ?c3 ?c4 ?c5
 k_with "01x"=>have st:base.StaysIn (hideAll s.heap (mu.map (·.1))):=fun b o e=>hideAll_get _ (S.stays b o e) (off b o e)
 k_with "01y"=>refine AP F6 N6 (.tail nID (.head neD)) (by exact Ar.upEL ‹_› ‹_› (by rfl)) fun h7 F7 N7=>?_
 k_with "01z"=>rcases List.mem_append.mp hp with hp|hp
 k_with "01A"=>refine wpAny_bind (wpAny_mono hr (fun _ s₂ h₂=>?_) fun _ _ h'=>h'.elim)
 k_with "01B"=>(case c5=>decide);(case kB=>exact locs rfl);(case c2=>exact rfl);(case c3=>exact rfl);(case c4=>exact rfl)
 k_with "01C"=>exact⟨oL,es,ep,he' _ _ (Ne.symm hI.2.1) hL,r⟩
 k_with "01D"=>refine wpAny_bind (wpAny_field hz rfl (x:=.ref TI) rfl ?_)
 k_with "01E"=>refine wpAny_bind (wpAny_field ho hd (x:=.int i 0) rfl ?_)
 k_with "01F"=>have e:=hP.keep (h':=h2) fun a ha o e=>k2 _ o (hx a ha).1 (hx a ha).2.1 e
 k_with "01G"=>exact⟨old _ _ (N p hp).1,below _ (Heap.lt_size (N p hp).1),hideAll_none _ (List.mem_map_of_mem hp)⟩
 k_with "01H"=>have fne:∀{b:Addr} {o:Obj},g.get? b=some o→b≠L':=fun{b o} e q=>by rw [q,kts_self F6] at e;cases e
 k_with "01I"=>simp only [bne_self_eq_false,Bool.false_eq_true,if_false]
 k_with "01J"=>refine⟨(turn n acc s₁ hj).1,wpAny_mono (turn n acc s₁ hj).2 (fun r s₂ hr=>?_) fun _ _ e=>e⟩
 k_with "01K"=>refine cmp_ofNotEq (SeqAt.RcNeAt.lists (e:=fun _=>true) ha hb rfl hu (fun j h1 h2=>?_) prog w E Q ?_)
 k_with "01L"=>have hj9:j<9:=by have:=(List.getElem?_eq_some_iff.mp hx).1;rw [AC hi,hne] at this;exact this
 k_with "01M"=>refine h _ _ (fun b o e hb=>F5.keep b o (keep b o e (by simp [hb]))) ?_
 k_with "01N"=>rw [AO (by omega),AO (by exact Nat.ne_of_lt ‹_›)]
 k_with "01O"=>have st:hb.StaysIn (hideAll s.heap (mu.map (·.1))):=fun b o e=>hideAll_get _ (kb b o e) (off b o e)
 k_with "01P"=>intro clo_ g L' h₁ tk0 cells p_ F N Y X' T' keep lt le
 k_with "01Q"=>refine⟨fun s' hs' Q E hQ=>wpAny_pyIter_rangeiter (hs' _ _ (N10 _ (.head _)).1) hQ,_,F10,N10,?_⟩
 k_with "01R"=>intro g' D C s₃ m' nw' F' N' _ _ FL NL hCg hCL hne hK
 k_with "01S"=>exact⟨IsListIter.keep' S.pli fun o e=>k1 _ o D.liz e,IsList.keep' S.pl fun o e=>k1 _ o D.dz e⟩
 k_with "01T"=>rw [List.range_succ,List.filter_append,List.map_append]
 k_with "01U"=>rw [show(i:Int)+1=((i+1:Nat):Int) by exact Ar.zs,show(9:Int)-i-1=9-((i+1:Nat):Int) by omega] at N3
 k_with "01V"=>rw [show(j:Int)+1=((j+1:Nat):Int) by exact Ar.zs,show(9:Int)-j-1=9-((j+1:Nat):Int) by omega] at N3
 k_with "01W"=>obtain⟨F6,N6⟩:=after F5 N5 (Upd.head (fun _ h=>nomatch h)) k' hd'
 k_with "01X"=>rename Fr _ _ _ _=>F9
 k_with "01Y"=>obtain rfl:i=3:=by have:=List.getElem?_eq_none_iff.mp hv;simp at this;exact Ar.ce ‹_› ‹_›
 k_with "01Z"=>refine h1 a e h' o' c' d' (F.change hs' hI.2.1 hI.2.2) fun p hp=>?_
 k_with "020"=>obtain⟨x,hq,rfl⟩:=List.mem_map.mp q
 k_with "021"=>simp only [Bool.false_eq_true,if_false]
 k_with "022"=>rename Fr _ _ _ _=>F7
 k_with "023"=>have hDC:s.heap.objs.size≠H2.objs.size:=by rw [hC];exact Nat.ne_of_lt (Nat.lt_succ_self _)
 k_with "024"=>show wpAny _ _ (field (.ref it) 1>>=_) _ _ s
 k_with "025"=>exact wpAny_bind (wpAny_newTuple (wpAny_pure ⟨_,rfl,h3⟩) (show 2≤_ by decide+kernel))
 k_with "026"=>have hj9:j=9:=by have:=List.getElem?_eq_none_iff.mp hx;exact Ar.ceR ‹_› ‹_› ‹_›
 k_with "027"=>obtain⟨bn,rfl⟩:∃(bn:Nat),b=bn:=⟨b.toNat,by exact(Int.toNat_of_nonneg hb0.1).symm⟩
 k_with "028"=>simp only [List.mem_cons,List.not_mem_nil,or_false,not_or] at hb
 k_with "029"=>rcases List.mem_cons.mp hx with rfl|hx
 k_with "02a"=>refine ltS (ltS (ltS (ltS (ltS (ltS (ltS (ltS (ltS lt0 ?_) ?_) ?_) ?_) ?_) ?_) ?_) ?_) ?_
 k_with "02b"=>have P1:Top Mine.hd.view_39 loose mz mg mb g1:=T.keeps B1.stays
 k_with "02c"=>exact⟨n',hn,h',tk,m₂,nw₂,e,F₂,N₂,J₂⟩
 k_with "02d"=>obtain⟨oL,es,ep,hL,r⟩:=F.ns
 k_with "02e"=>refine wpAny_bind (wpAny_mono h2 (fun y s2 h3=>wpAny_pure (wpAny_pure ?_)) fun _ _ e=>e)
 k_with "02f"=>refine wpAny_assign_Name (wpAny_storeName_local hy FL.ns (fun h₂ hn₂ hs₂=>?_) hp)
 k_with "02g"=>have nLIRI:LI≠RI:=ocl eLI.1 eRI.1 (by first|exact cL|rfl) (by first|exact cL|rfl) rfl
 k_with "02h"=>have n2:@Ne Nat d I:=ocl hdd hI rfl cI rfl
 k_with "02i"=>have nfs:d∉L'::AF ou:=fun q=>(List.mem_cons.mp q).elim (fun e=>(N6 _ mm1).2.1 e) f1
 k_with "02j"=>have nfs:d∉L'::AF ou:=fun q=>(List.mem_cons.mp q).elim (fun e=>(N6 _ mm3).2.1 e) f1
 k_with "02k"=>refine wpAny_assign_Name ?_
 k_with "02l"=>have hj9:j<9:=by have:=(List.getElem?_eq_some_iff.mp hx).1;exact Ar.rr2 ‹_› ‹_›
 k_with "02m"=>(case k6=>k_is);(case k7=>k_is);(case k8=>show dp<1000;exact Ar.upT ‹_› (by rfl));
 k_with "02n"=>refine FQ F5 rfl rfl rfl (BI.plain (by decide) rfl) rfl (by decide) rfl rfl ?_
 k_with "02o"=>have T':Top Mine.hd.view_39 loose mz mg mb g:=T.keeps B.stays
 k_with "02p"=>exact⟨this.1,Nat.lt_of_lt_of_le this.2 (Nat.le_of_lt (Nat.lt_of_le_of_lt h1 h2))⟩
 k_with "02q"=>have n1:@Ne Nat x I:=ocl hx hI rfl cI rfl
 k_with "02r"=>have nLIz:LI≠z:=ocl eLI.1 ez.1 (by first|exact cL|rfl) (by first|exact cL|rfl) rfl
 k_with "02s"=>intro g L' h₁ tk0 cells F N Y X' T' keep lt le
 k_with "02t"=>obtain⟨_,rfl⟩:=Value.int.inj (List.mem_singleton.mp hk)
 k_with "02u"=>simp only [List.mem_cons,List.not_mem_nil,or_false] at h⊢
 k_with "02v"=>refine wpAny_bind (wpAny_setField_rec hz (by simp) fun h1 hz1' hs1=>wpAny_pure ?_)
 k_with "02w"=>show EO _ _ _ _ _ _ _ _ _ _ _ _ _ _ _ _ _
 k_with "02x"=>intro clo_ h4 tk4 p_ F4 N4
 k_with "02y"=>exact Option.some.inj this
 k_with "02z"=>have X1:(Mine.hd.heap_39 w.params).In g1:=X.keeps B1.stays
 k_with "02A"=>refine wpAny_pure ?_
 k_with "02B"=>rintro s₅ ⟨h',tk,m₂,nw₂,n',e,F₂,N₂,hn,J₂⟩
 k_with "02C"=>simp only [List.mem_cons,List.not_mem_nil,or_false] at hp
 k_with "02D"=>rcases List.mem_append.mp hj with hj|hj
 k_with "02E"=>refine wpAny_bind (wpAny_rule (wpAny_bind (wpAny_setField ho hd (by simp) ?_)))
 k_with "02F"=>obtain⟨h₁,tk₁,m₁,nw₁,rfl,F₁,N₁,J₁⟩:=hI
 k_with "02G"=>refine wpAny_bind (wpAny_seqItems hTI rfl ?_)
 k_with "02H"=>refine wpAny_bind (wpAny_seqItems hol hdl ?_)
 k_with "02I"=>exact U7 b o e (by simp at hb⊢;exact⟨hb.1,hb.2.1,hb.2.2.1,hbd,hb.2.2.2⟩)
 k_with "02J"=>simp only [h1,h2,if_true,decide_true,decide_false,if_false,Bool.false_eq_true]
 k_with "02K"=>have X':(Mine.hd.heap_39 w.params).In g:=X.keeps B.stays
 k_with "02L"=>have hS₂:=Heap.get?_update_self (Obj.mapSeq (·.push Value.none)) hS₁ rfl
 k_with "02M"=>exact absurd (Int.mul_nonneg z (Int.le_of_lt hp)) (by exact Int.not_le.mpr q)
 k_with "02N"=>exact⟨hs.extBut _ _ (hne p hp) (N p (.tail _ hp)).1,(N p (.tail _ hp)).2⟩
 k_with "02O"=>show wpAny _ _ (Builtin.SmallTypes.nextOf i2>>=_) _ _ _
 k_with "02P"=>exact⟨n',hn,h',tk,m₂,nw₂,n',e,F₂,N₂,Nat.lt_succ_self _,rfl,J₂⟩
 k_with "02Q"=>refine wpAny_bind (wpAny_setField_rec hz (by simp) fun h₁ hz₁ hs₁=>?_)
 k_with "02R"=>rw [if_neg (show¬((Value.ref l==Value.none)=true) from Bool.false_ne_true)]
 k_with "02S"=>rw [if_neg (show¬((Value.ref t==Value.none)=true) from Bool.false_ne_true)]
 k_with "02T"=>refine wpAny_bind (wpAny_rule ?_)
 k_with "02U"=>simp only [List.zipIdx_cons,List.zipIdx_nil,List.forIn_cons,List.forIn_nil]
 k_with "02V"=>have nID2:@Ne Nat I2 D2:=Nat.ne_of_lt (lD _ (.head _))
 k_with "02W"=>show wpAny _ _ (field (.ref z) 2>>=_) _ _ _
 k_with "02X"=>show wpAny _ _ (field (.ref z) 3>>=_) _ _ _
 k_with "02Y"=>exact ocl e' e (by first|exact c|exact c') (by first|exact c|exact c') rfl
 k_with "02Z"=>have nID:@Ne Nat I2 D2:=Nat.ne_of_lt (lD _ (.head _))
 k_with "030"=>have nID:@Ne Nat I3 D3:=Nat.ne_of_lt (lD _ (.head _))
 k_with "031"=>exact wpAny_passesOwnAt hE (k h₆ g₆ T₆ F₆ Nl K₆ X₆ P₆ D₆)
 k_with "032"=>have n2:h4.objs.size≠li:=by obtain⟨o,e,_⟩:=el;exact(hsz _ _ e).symm
 k_with "033"=>rw [hj9,List.take_of_length_le (by exact Ar.upE ‹_› (by rfl))] at hzs
 k_with "034"=>unfold Builtin.SmallTypes.ownedTupleIsFree
 k_with "035"=>simp only [List.forIn_cons,List.forIn_nil]
 k_with "036"=>have hp:(0:Int)<((2^1073:Nat):Int):=Int.ofNat_lt.mpr (Nat.two_pow_pos _)
 k_with "037"=>refine Pq (AR dp un (some ou) gd) base ou g L' ?_
 k_with "038"=>rintro k m₁ nw₁ h₂ tk₂ F₂ N₂ ⟨i,us,c,hk,rfl,hus,hall,hm⟩
 k_with "039"=>refine wpAny_storeName_cell hk hl hc ⟨o,hN.1,hd⟩ fun h' hcell hs=>?_
 k_with "03a"=>refine⟨hp.lt (by exact Ar.q27 hf),hp.lt (by exact Ar.q12 h1 hf),?_⟩
 k_with "03b"=>have nID:@Ne Nat I D:=Nat.ne_of_lt (lD _ (.head _))
 k_with "03c"=>have hC:H2.objs.size=s.heap.objs.size+1:=by rw [←hH2,Heap.size_push]
 k_with "03d"=>have P₅:TopRead p loose mg mb g₅:=topRead_of (TB.keeps K₅.stays)
 k_with "03e"=>refine BU F6 rfl (BI.plain (by decide) rfl) rfl (by decide) ?_
 k_with "03f"=>refine wpAny_bind (wpAny_field hz rfl (x:=.none) rfl (wpAny_pure ?_))
 k_with "03g"=>show wpAny _ _ (if(Value.ref l==Value.none)=true then _ else _) _ _ s
 k_with "03h"=>show wpAny _ _ (if(Value.ref t==Value.none)=true then _ else _) _ _ s
 k_with "03i"=>intro clo_ k m₁ h₂ tk₂ p_ F₂ d_ i us c p_ hk hus hall hm N₂
 k_with "03j"=>refine wpAny_bind (wpAny_of_eq (a:=()) (by first|rfl|kernel_rfl) ?_)
 k_with "03k"=>obtain⟨_,rfl⟩:=h;exact Nat.le_refl _
 k_with "03l"=>refine Aj (Dd F3 N3 (fun h4 tk4 F4 N4 hle=>?_) rfl rfl)
 k_with "03m"=>refine wpAny_bind (wpAny_bind (wpAny_onRaise ?_))
 k_with "03n"=>refine wpAny_pyNext_list_end hh hit hl (by simp [e]) fun h' he'=>?_
 k_with "03o"=>refine LQ F7 rfl rfl rfl (by decide) rfl (by decide) rfl rfl ?_
 k_with "03p"=>refine⟨fun k u hk=>?_,fun k u hk hu=>?_,fun k j u hu hk hj=>?_⟩
 k_with "03q"=>rintro n s' ⟨h₁,tk₁,m₁,nw₁,k,rfl,F₁,N₁,_,rfl,J₁⟩
 k_with "03r"=>obtain⟨i,hi,rfl⟩:=List.mem_iff_getElem.mp hc
 k_with "03s"=>intro clo_ g L' h₁ tk0 cells p_ htk F N Y X' T' B' Dt keep lt le
 k_with "03t"=>have hS₃:=Heap.get?_update_self (Obj.mapSeq (·.pop)) hS₂ rfl
 k_with "03u"=>rw [e2,Af H.lt,AO (by exact Ne.symm ‹_›)]
 k_with "03v"=>exact e.1.trans (Value.int.inj (List.mem_singleton.mp hj)).1.symm
 k_with "03w"=>obtain⟨J,n₀,m,nw,F,N,hJ,turn⟩:=h
 k_with "03x"=>refine wpAny_bind (m:=checkCount "sorted" 1 1 _) (wpAny_pure ?_)
 k_with "03y"=>have e:=N p (.tail _ (.tail _ (.tail _ (.tail _ (.tail _ hp)))))
 k_with "03z"=>have hl:s.heap.IsList d vs.toArray:=⟨_,(N _ hm).1,rfl,n,rfl⟩
 k_with "03A"=>have e:(decide (a<0) !=decide ((2:Int)<0))=decide (a<0):=by simp
 k_with "03B"=>show wpAny _ A.in1 (seqItems? (.ref s.heap.objs.size)>>=_) _ _ _
 k_with "03C"=>have hT:s.TypeIs (.ref z) "zip":=⟨_,ez,cz⟩
 k_with "03D"=>(case m=>intro q hq;cases hq)
 k_with "03E"=>have kd:=Ax keep F6 (AL hd1) (AL (N6 _ mm1).1)
 k_with "03F"=>exact kp_binds (X.keeps SD.stays) (fun _=>rfl)
 k_with "03G"=>have hCL:H2.objs.size≠L:=Ne.symm (below _ (Heap.lt_size hL))
 k_with "03H"=>simp only [h0,h1,h2,Bool.or_false,Bool.false_eq_true,if_false]
 k_with "03I"=>refine wpAny_pure ⟨plainId_quiet F.plain_extend_loop _,?_⟩
 k_with "03J"=>have D₆:KtsDicts (ou.filterMap (·.frame)) g₆:=D.turn T₆
 k_with "03K"=>unfold Builtin.SmallTypes.nextOf
 k_with "03L"=>intro clo_ h4 p_ F4 N4
 k_with "03M"=>rcases List.mem_append.mp (List.mem_of_mem_take hm) with hm|hm
 k_with "03N"=>rcases List.mem_append.mp (List.mem_of_mem_take hk) with hk|hk
 k_with "03O"=>rw [e] at e';cases e'
 k_with "03P"=>refine wpAny_bind ?_
 k_with "03Q"=>have hT:s.TypeIs (.ref it) "range_iterator":=⟨_,hit,rfl⟩
 k_with "03R"=>rename List.Pairwise _ _=>o6
 k_with "03S"=>rename News _ _ _ _=>N11
 k_with "03T"=>refine wpAny_bind (wpAny_field hz rfl (x:=rawInt a) rfl ?_)
 k_with "03U"=>refine wpAny_bind (wpAny_field hz rfl (x:=.bool f1) rfl ?_)
 k_with "03V"=>have hc1:c₁<as₁.length:=by exact Ar.zrl ‹_› ‹_›
 k_with "03W"=>refine wpAny_pure ⟨plainId_quiet F.plain_max_loop _,?_⟩
 k_with "03X"=>show wpAny _ A.in1 (tryCatch (pyNext (.ref I)) _>>=_) _ _ _
 k_with "03Y"=>intro pick_ w dp un fr gd s loose mz mg mb Q E hb d vs ns n
 k_with "03Z"=>refine Pr h (fun it s₂ h₂=>?_) hs hE
 k_with "040"=>rw [List.getD_eq_getElem?_getD,List.getElem?_eq_getElem h]
 k_with "041"=>show wpAny _ _ (loadIfAlive (Int.toNat (a:Int))>>=_) _ _ _
 k_with "042"=>refine wpAny_bind (wpAny_field hz rfl (x:=.ref TO) rfl ?_)
 k_with "043"=>have hi':i<ns.length:=by rw [Ab] at hi;exact hi
 k_with "044"=>have hj':j<ns.length:=by rw [Ab] at hj;exact hj
 k_with "045"=>rcases hp with rfl|rfl|rfl<;>exact Nat.ne_of_lt (by omega)
 k_with "046"=>refine h h' o' d' (F.change hs hN.2.1 hN.2.2) fun p hp=>?_
 k_with "047"=>intro g L' h₁ tk0 cells htk F N Y X' T' B' Dt keep lt le
 k_with "048"=>rw [←q,e] at this;cases this
 k_with "049"=>exact h _ _ fun b o e=>F5.keep b o (keep b o e (by simp))
 k_with "04a"=>intro clo_ h8 p_ F8 N8
 k_with "04b"=>rintro n s ⟨h',tk,m₂,nw₂,n',e,F₂,N₂,hn,J₂⟩
 k_with "04c"=>have P₆:Top p loose mz mg mb g₆:=TB.keeps K₆.stays
 k_with "04d"=>refine wpAny_bind (wpAny_field ho hd (x:=.ref l) rfl ?_)
 k_with "04e"=>refine wpAny_bind (wpAny_field ho hd (x:=.ref t) rfl ?_)
 k_with "04f"=>rw [List.getD_eq_getElem?_getD,he,Option.getD_some,this]
 k_with "04g"=>intro clo_ g2 D2 C h₁ tk₁ p_ k1 k2 F10 N10 lD lC N11
 k_with "04h"=>simp only [List.map_cons,List.sum_cons,List.length_cons]
 k_with "04i"=>obtain⟨pre,post,rfl,rfl,x,y⟩:=U.split
 k_with "04j"=>show wpAny _ A (assign (.Name y py) env (.ref D)) _ _ _
 k_with "04k"=>refine wpAny_bind (((hhint.keeps up).keeps k2).here ?_)
 k_with "04l"=>exact Int.eq_of_mul_eq_mul_right (Int.ne_of_gt hK) this
 k_with "04m"=>intro clo_ g' D C h₁ tk₁ p_ k1 k2 F10 N10 lD lC N11
 k_with "04n"=>intro pick_ x o1 o2 o3 o4 o5 o6 o7 oC oG oM oO oT oV od
 k_with "04o"=>obtain⟨o',eo,c',d'⟩:=hit'
 k_with "04p"=>refine' CR hlook ?k ?_
 k_with "04q"=>rename _≤Shared.toks _=>hl1
 k_with "04r"=>refine wpAny_bind (wpAny_pure ?_)
 k_with "04s"=>refine wpAny_bind (((hlen.keeps up).keeps k2).here ?_)
 k_with "04t"=>obtain⟨q,hq,rfl⟩:=List.mem_map.mp hm
 k_with "04u"=>rw [AO (Ne.symm h2),AO (Ne.symm h1)]
 k_with "04v"=>rw [AO (Ne.symm e2),AO (Ne.symm e1)]
 k_with "04w"=>rintro n m₁ nw₁ h₂ tk₂ F₂ N₂ ⟨rfl,rfl⟩
 k_with "04x"=>have es:strIterType x= "str_ascii_iterator":=if_pos ha
 k_with "04y"=>clear F₂ N₂ F3 N3 neI neD nID
 k_with "04z"=>have hit:s.heap.IsListIter I D k:=⟨oI,hI.1,cI,dI⟩
 k_with "04A"=>rw [typeLookup_type,builtinLookup_eq_fast];kernel_rfl
 k_with "04B"=>have nID:@Ne Nat I4 D4:=Nat.ne_of_lt (lD _ (.head _))
 k_with "04C"=>exact codeAny_compStart_list run (hit _ old _ _ run)
 k_with "04D"=>refine lands_againW hheld fun h₆ hfl₆ hsm₆=>?_
 k_with "04E"=>simp only [Int.toNat_natCast,hx]
 k_with "04F"=>exact⟨(N6 _ (.head _)).2.2,(N6 _ (.head _)).2.1⟩
 k_with "04G"=>dsimp only [ForTurn]
 k_with "04H"=>intro clo_ h7 p_ F7 N7
 k_with "04I"=>intro clo_ I2 h9 p_ F9 N9 l9
 k_with "04J"=>have e:=(Value.int.inj (List.mem_singleton.mp hj)).2
 k_with "04K"=>have e:=(Value.int.inj (List.mem_singleton.mp hk)).2
 k_with "04L"=>rcases h with h|h|h|h|h|h|h|h|h|h|h|h|h|h<;>simp [h]
 k_with "04M"=>have hl:(katRev b as).length=as.length:=kat_len _ _
 k_with "04N"=>refine wpAny_bind (wpAny_askSetting (wpAny_ite ?_))
 k_with "04O"=>intro clo_ h7 tk7 e7 o7 z7 p_ c7 d7 R7
 k_with "04P"=>intro clo_ g L' h₁ p_ F0 N X' T' B' Dt keep lt le
 k_with "04Q"=>rcases List.mem_cons.mp hz with rfl|hz
 k_with "04R"=>rename News g L' _ _=>N22
 k_with "04S"=>rcases hp with rfl|rfl|rfl|rfl|rfl|hp
 k_with "04T"=>refine wpAny_bind (wpAny_newList ?_)
 k_with "04U"=>obtain⟨o,es,n,e,d⟩:=S.dicts b hb
 k_with "04V"=>obtain⟨o,ho,hc,hd⟩:=id hit
 k_with "04W"=>rcases hq with rfl|rfl|rfl|rfl
 k_with "04X"=>simp only [Bx,List.mem_cons] at hp
 k_with "04Y"=>dsimp only [CO]
 k_with "04Z"=>dsimp only [EO]
 k_with "050"=>clear F₂ N₂ F3 N3 neI neD nID k1
 k_with "051"=>rcases hq with rfl|rfl
 k_with "052"=>rw [List.length_set] at hi
 k_with "053"=>rcases hq with rfl|rfl|rfl
 k_with "054"=>intro clo_ h6 p_ F6 N6
 k_with "055"=>intro kb X T hd hu hd1 hd0 hi hne h
 k_with "056"=>refine Ai (g':=g2) (C:=C2) ?_
 k_with "057"=>exact Nat.ne_of_lt (by omega)
 k_with "058"=>intro clo_ q p_ hq
 k_with "059"=>rcases hq with rfl|rfl|rfl|rfl|rfl
 k_with "05a"=>rename Fr g L' _ _=>F22
 k_with "05b"=>rename IsRange _ _ _ _ _ _ _ _=>R8
 k_with "05c"=>intro clo_ h3 oI' p_ cI' dI' F3 N3
 k_with "05d"=>refine Ai (g':=g2) (C:=C) ?_
 k_with "05e"=>exact absurd (.head _) hw
 k_with "05f"=>rcases hq with rfl|rfl|rfl<;>simp
 k_with "05g"=>obtain⟨t,e,hv,ht⟩:=HS h
 k_with "05h"=>obtain⟨m,x,hx⟩:=Bt ha
 k_with "05i"=>intro clo_ h' tk' p_ k' hd'
 k_with "05j"=>rcases hi with⟨hi,_⟩|hi
 k_with "05k"=>obtain⟨a1,a2,a3,a4,a5,a6⟩:=A
 k_with "05l"=>rename List.Perm _ _=>p6
 k_with "05m"=>rename Fr _ _ _ _=>F11
 k_with "05n"=>rename News _ _ _ _=>N13
 k_with "05o"=>intro clo_ I h9 p_ F9 N9 l9
 k_with "05p"=>refine congrArg (_++ ·) ?_
 k_with "05q"=>rw [←Array.forIn_toList]
 k_with "05r"=>rw [List.length_set] at hc
 k_with "05s"=>obtain⟨oz,ez,cz⟩:=S.zz
 k_with "05t"=>intro clo_ h7 tk7 p_ k7 e7
 k_with "05u"=>dsimp only [CompIf]
 k_with "05v"=>intro clo_ p p_ hp
 k_with "05w"=>intro hlt h3 F3 N3
 k_with "05x"=>clear F₂ N₂ F3 hm
 trivial
theorem mm1 {α:Type}{a0 a1:α}{l:List α}:a1∈a0::a1::l:=.tail _ (.head _)
theorem mm2 {α:Type}{a0 a1 a2:α}{l:List α}:a2∈a0::a1::a2::l:=.tail _ mm1
theorem mm3 {α:Type}{a0 a1 a2 a3:α}{l:List α}:a3∈a0::a1::a2::a3::l:=.tail _ mm2
theorem mm4 {α:Type}{a0 a1 a2 a3 a4:α}{l:List α}:a4∈a0::a1::a2::a3::a4::l:=.tail _ mm3
theorem mm5 {α:Type}{a0 a1 a2 a3 a4 a5:α}{l:List α}:a5∈a0::a1::a2::a3::a4::a5::l:=.tail _ mm4
theorem mm6 {α:Type}{a0 a1 a2 a3 a4 a5 a6:α}{l:List α}:a6∈a0::a1::a2::a3::a4::a5::a6::l:=.tail _ mm5
theorem mm7 {α:Type}{a0 a1 a2 a3 a4 a5 a6 a7:α}{l:List α}:a7∈a0::a1::a2::a3::a4::a5::a6::a7::l:=.tail _ mm6
theorem mm8 {α:Type}{a0 a1 a2 a3 a4 a5 a6 a7 a8:α}{l:List α}:a8∈a0::a1::a2::a3::a4::a5::a6::a7::a8::l:=.tail _ mm7
theorem mm9 {α:Type}{a0 a1 a2 a3 a4 a5 a6 a7 a8 a9:α}{l:List α}:a9∈a0::a1::a2::a3::a4::a5::a6::a7::a8::a9::l:=.tail _ mm8
theorem mm10 {α:Type}{a0 a1 a2 a3 a4 a5 a6 a7 a8 a9 a10:α}{l:List α}:a10∈a0::a1::a2::a3::a4::a5::a6::a7::a8::a9::a10::l:=.tail _ mm9
namespace Ar
variable{a b c d e k j n m:Nat}{x y z:Int}
theorem K8:(2*k+1)/2=k:=Nat.mul_add_div Nat.two_pos k 1
theorem ev2:∀{k:Nat},(2*k-1)/2=k-1
 |0=>rfl
 |_+1=>K8
theorem evn (h:n % 2=0):(n-1)/2=n/2-1:=by
 have e:2*(n/2)=n:=Nat.mul_div_cancel' (Nat.dvd_of_mod_eq_zero h)
 exact(congrArg (fun z=>(z-1)/2) e.symm).trans ev2
theorem su3 (h:2*m+1<n):n-(2*m+1)<n-m:=Nat.sub_lt_sub_left (Nat.lt_of_le_of_lt (Nat.le_trans (Nat.le_mul_of_pos_left m (by decide)) (Nat.le_succ _)) h) (Nat.lt_succ_of_le (Nat.le_mul_of_pos_left m (by decide)))
theorem tn1:∀{n:Nat},((n:Int)-1).toNat=n-1
 |0=>rfl
 |n+1=>congrArg Int.toNat (Int.add_sub_cancel (n:Int) 1)
theorem parS (h:n<m):(m-1)/2<m:=Nat.lt_of_le_of_lt (Nat.div_le_self _ _) (Nat.sub_lt (Nat.zero_lt_of_lt h) Nat.one_pos)
theorem neTr (h:a<b)(h2:b<c):a≠c:=Nat.ne_of_lt (Nat.lt_trans h h2)
theorem neTr' (h:a<b)(h2:b<c):c≠a:=(neTr h h2).symm
theorem up (h:a≤b)(e:Nat.ble (b+c) d=true):a+c≤d:=Nat.le_trans (Nat.add_le_add_right h c) (Nat.le_of_ble_eq_true e)
theorem upS (h:a≤b)(e:Nat.ble b d=true):a≤d:=Nat.le_trans h (Nat.le_of_ble_eq_true e)
theorem upL (h:a<b)(e:Nat.ble b (d+1)=true):a≤d:=Nat.le_of_lt_succ (Nat.lt_of_lt_of_le h (Nat.le_of_ble_eq_true e))
theorem upE (h:a=b)(e:Nat.ble b d=true):a≤d:=h▸Nat.le_of_ble_eq_true e
theorem upEL (h:a=c)(h1:c<b)(e:Nat.ble b (d+1)=true):a≤d:=h▸upL h1 e
theorem upES (h:a=c)(h1:c≤b)(e:Nat.ble b d=true):a≤d:=h▸upS h1 e
theorem zup (h:a≤b)(e:decide ((b:Int)<x)=true):(a:Int)<x:=Int.lt_of_le_of_lt (Int.ofNat_le.mpr h) (of_decide_eq_true e)
theorem zupL (h:a<b)(e:decide ((b:Int)≤x)=true):(a:Int)<x:=Int.lt_of_lt_of_le (Int.ofNat_lt.mpr h) (of_decide_eq_true e)
theorem cd (h:k+j=n)(h1:j<n):k-1+(j+1)=n:=by
 cases k with
 |zero=>exact absurd (((Nat.zero_add j).symm.trans h)▸h1) (Nat.lt_irrefl _)
 |succ k=>exact(Nat.succ_add_eq_add_succ k j).symm.trans h
theorem cdP (h:k+j=n)(h1:j<n):k-1<k:=by lia
theorem cdR (h:k+j=n)(h1:j<m)(h2:m=n):k-1+(j+1)=n:=cd h (h2▸h1)
theorem cdRP (h:k+j=n)(h1:j<m)(h2:m=n):k-1<k:=cdP h (h2▸h1)
theorem cdQ (h:k+j=n)(h1:j<m)(h2:n=m):k-1+(j+1)=n:=cd h (h2▸h1)
theorem cdQP (h:k+j=n)(h1:j<m)(h2:n=m):k-1<k:=cdP h (h2▸h1)
theorem zlt (h:(0:Int)<(n:Int)-(j:Int)):j<n:=by omega
theorem zcd (h:k+j=n)(h1:(0:Int)<(n:Int)-(j:Int)):k-1+(j+1)=n:=cd h (zlt h1)
theorem zcdP (h:k+j=n)(h1:(0:Int)<(n:Int)-(j:Int)):k-1<k:=cdP h (zlt h1)
theorem ce (h:k+j=n)(h1:n≤j):j=n:=by lia
theorem ceR (h:k+j=n)(h1:m≤j)(h2:m=n):j=n:=ce h (h2▸h1)
theorem ceN (h:k+j=n)(h1:¬j<n):j=n:=ce h (Nat.le_of_not_lt h1)
theorem zce (h:k+j=n)(h1:(n:Int)-(j:Int)≤0):j=n:=ce h (by omega)
theorem rl (h:m=n)(h1:j<n):j<m:=h▸h1
theorem rr (h:n=m)(h1:j<n):j<m:=h▸h1
theorem rle (h:m=n)(h1:j≤n):j≤m:=h▸h1
theorem rle' (h:j=n)(h1:n≤m):j≤m:=h▸h1
theorem zrl (h:m=n)(h1:(j:Int)<(n:Int)):j<m:=h▸Int.ofNat_lt.mp h1
theorem z0:(0:Int)≤(n:Int):=Int.natCast_nonneg n
theorem z1a:(0:Int)<(n:Int)+1:=Int.natCast_pos.mpr (Nat.succ_pos n)
theorem zs:(n:Int)+1=((n+1:Nat):Int):=rfl
theorem zc:(n:Int)-(j:Int)-1=(n:Int)-((j+1:Nat):Int):=by omega
theorem par (h:n<m):(n-1)/2<m:=Nat.lt_of_le_of_lt (Nat.le_trans (Nat.div_le_self _ _) (Nat.sub_le _ _)) h
theorem parO (h:0<n)(h1:(n-1)/2=m):n=2*m+1∨n=2*m+2:=by
 cases n with
 |zero=>exact absurd h (Nat.lt_irrefl 0)
 |succ n=>
  subst h1
  have e:=Nat.div_add_mod n 2
  rcases Nat.mod_two_eq_zero_or_one n with r|r
  ·exact .inl (congrArg Nat.succ (r▸e).symm)
  ·exact .inr (congrArg Nat.succ (r▸e).symm)
theorem parL (h:0<m)(h1:n≤(m-1)/2):n<m:=Nat.lt_of_le_of_lt h1 (parS h)
theorem par1:(2*n+1-1)/2=n:=Nat.mul_div_cancel_left n Nat.two_pos
theorem par2:(2*n+2-1)/2=n:=K8
theorem su1 (h:n-m=k)(h1:2*m+1<n):n-(2*m+1)<k:=h▸su3 h1
theorem mnS (h:a≤c):min (a-b) (c-b)=a-b:=Nat.min_eq_left (Nat.sub_le_sub_right h b)
theorem mnR (h:b≤c):min a b≤c:=Nat.le_trans (Nat.min_le_right _ _) h
theorem dbl (h:x.natAbs<n)(e:Nat.ble (2*n) m=true):(2*x).natAbs<m:=(Int.natAbs_mul 2 x).symm▸Nat.lt_of_lt_of_le (Nat.mul_lt_mul_of_pos_left h Nat.two_pos) (Nat.le_of_ble_eq_true e)
theorem nsub (h:a<b):a+(b-a)=b:=Nat.add_sub_cancel' (Nat.le_of_lt h)
theorem zsub (h:(a:Int)<(b:Int)):a+(b-a)=b:=nsub (Int.ofNat_lt.mp h)
theorem nsubS' (h:(a:Int)+1<(b:Int)):a+1+(b-(a+1))=b:=Nat.add_sub_cancel' (by omega)
theorem upT (h:a≤b)(e:Nat.ble (b+1) d=true):a<d:=Nat.lt_of_le_of_lt h (Nat.le_of_ble_eq_true e)
theorem upA (h:a≤b)(e:Nat.ble (b+c+1) d=true):a+c<d:=Nat.lt_of_le_of_lt (Nat.add_le_add_right h c) (Nat.le_of_ble_eq_true e)
theorem upET (h:a=b)(e:Nat.ble (b+1) d=true):a<d:=h▸Nat.le_of_ble_eq_true e
theorem upLL (h:a<b)(e:Nat.ble b d=true):a<d:=Nat.lt_of_lt_of_le h (Nat.le_of_ble_eq_true e)
theorem upELL (h:a=c)(h1:c<b)(e:Nat.ble b d=true):a<d:=h▸upLL h1 e
theorem upESL (h:a=c)(h1:c≤b)(e:Nat.ble (b+1) d=true):a<d:=h▸upT h1 e
theorem upG (h:n=c)(h1:j<b)(e:Nat.ble b c=true):j<n:=h▸upLL h1 e
theorem upGc (h:n=c)(e:Nat.ble (j+1) c=true):j<n:=h▸Nat.le_of_ble_eq_true e
theorem rr2 (h1:j<n)(h:n=m):j<m:=h▸h1
theorem rrr (h1:j<n)(h:n=m)(h2:m=k):j<k:=h2▸h▸h1
theorem ceL (h1:n≤j)(h2:n=m)(h3:m=c)(h:k+j=c):j=c:=ce h (h3▸h2▸h1)
theorem cdC (h:j+k=n)(h1:j<n):j+1+(k-1)=n:=(Nat.add_comm _ _).trans (cd ((Nat.add_comm k j).trans h) h1)
theorem cdCP (h:j+k=n)(h1:j<n):k-1<k:=cdP ((Nat.add_comm k j).trans h) h1
theorem dbS (h:x.natAbs<n)(h2:y.natAbs<m)(e:Nat.ble (n+m) d=true):(x+y).natAbs<d:=by
 have:=Nat.le_of_ble_eq_true e
 have:=Int.natAbs_add_le x y
 exact Nat.lt_of_le_of_lt this (Nat.lt_of_lt_of_le (Nat.add_lt_add h h2) (Nat.le_of_ble_eq_true e))
theorem dbD (h:x.natAbs<n)(h2:y.natAbs<m)(e:Nat.ble (n+m) d=true):(x-y).natAbs<d:=by
 rw [Int.sub_eq_add_neg]
 exact dbS h (by rw [Int.natAbs_neg];exact h2) e
theorem hlf (h:n=m):((n:Int)/2).toNat=m/2:=h▸rfl
theorem hlfO (h:n=m)(h1:(n:Int)% 2=1):((n:Int)/2).toNat=(m-1)/2:=by
 subst h
 have e:n % 2=1:=Int.ofNat.inj h1
 have e2:2*(n/2)+1=n:=e▸Nat.div_add_mod n 2
 exact((congrArg (fun z=>(z-1)/2) e2).symm.trans (Nat.mul_div_cancel_left _ Nat.two_pos)).symm
theorem hlfE (h:n=m)(h1:(n:Int)% 2≠1):((n:Int)/2-1).toNat=(m-1)/2:=by
 subst h
 rcases Nat.mod_two_eq_zero_or_one n with e|e
 ·exact tn1.trans (evn e).symm
 ·exact absurd (congrArg Int.ofNat e) h1
theorem sub1 (h:c≤a):a+1-c=a-c+1:=Nat.succ_sub h
theorem subA (h:c≤a):c+(a-c)=a:=Nat.add_sub_cancel' h
theorem subP (h:c<a):0<a-c:=Nat.sub_pos_of_lt h
theorem zsubP (h:(c:Int)<(a:Int)):0<a-c:=Nat.sub_pos_of_lt (Int.ofNat_lt.mp h)
end Ar
namespace Ar
variable{a b c d e k j n m p q i l s t u:Nat}{x y z v w x' y':Int}{P Q R:Prop}
theorem pd0 (h:a+(b+1)≤c):a<c:=Nat.lt_of_lt_of_le (Nat.lt_add_of_pos_right (Nat.succ_pos b)) h
theorem pd1 (h:a+(b+1)≤c):a-1<c:=Nat.lt_of_le_of_lt (Nat.sub_le a 1) (pd0 h)
theorem pd2 (h:a+(b+1)≤c):a+1+b≤c:=(Nat.succ_add_eq_add_succ a b).symm▸h
theorem pd3 (h:a+(b+1)=c):a<c:=pd0 (Nat.le_of_eq h)
theorem pd4 (h:a+(b+1)=c):a+1+b=c:=(Nat.succ_add_eq_add_succ a b).trans h
theorem nab (h:x.natAbs≤a)(h2:n≤b)(e:Nat.ble (a+1+b) c=true):(x-1+(n:Int)).natAbs≤c:=
 Nat.le_trans (Int.natAbs_add_le _ _) (Nat.le_trans (Nat.add_le_add (Nat.le_trans (Int.natAbs_sub_le x 1) (Nat.add_le_add_right h 1)) h2) (Nat.le_of_ble_eq_true e))
theorem na2 (h:x.natAbs≤a)(e:Nat.ble (2*a) b=true):(2*x).natAbs≤b:=(Int.natAbs_mul 2 x).symm▸Nat.le_trans (Nat.mul_le_mul_left 2 h) (Nat.le_of_ble_eq_true e)
theorem naA (h:x.natAbs≤a)(h2:y.natAbs≤b):(x+y).natAbs≤a+b:=Nat.le_trans (Int.natAbs_add_le x y) (Nat.add_le_add h h2)
theorem nfl (h:x.natAbs≤1048576)(h2:n≤64):(2*(x-1+(n:Int))).natAbs<2^53:=Nat.lt_of_le_of_lt (na2 (b:=2097282) (nab (c:=1048641) h h2 rfl) rfl) (by decide)
theorem nfl2 (h:x.natAbs≤1048576)(h2:n≤64)(h3:m≤64):(2*(x-1+(n:Int))+((m:Int)+1)).natAbs<2^53:=
 Nat.lt_of_le_of_lt (naA (b:=65) (na2 (b:=2097282) (nab (c:=1048641) h h2 rfl) rfl) (Nat.succ_le_succ h3)) (by decide)
theorem nfl3 (h:n≤64):((n:Int)+1).natAbs<2^53:=Nat.lt_of_le_of_lt (Nat.succ_le_succ h) (by decide)
theorem nrk (h:x.natAbs≤1048576)(h1:n<64)(h2:m=n)(h3:k+j=m)(h4:j<q)(h5:q≤m):(x-1+(j:Int)).natAbs<1073741824:=
 Nat.lt_of_le_of_lt (nab (b:=64) (c:=1048641) h (Nat.le_of_lt (Nat.lt_of_lt_of_le h4 (Nat.le_trans h5 (h2▸Nat.le_of_lt h1)))) rfl) (by decide)
theorem nrk2 (h1:n<64)(h2:m=n)(h4:q≤m)(h5:l=q-j):((l:Int)+1).natAbs<1073741824:=
 Nat.lt_of_le_of_lt (Nat.succ_le_succ (h5▸Nat.le_trans (Nat.sub_le q j) (Nat.le_trans h4 (h2▸Nat.le_of_lt h1)))) (by decide)
theorem nrk3 (h1:n<64)(h2:m=n)(h4:q≤m)(h5:l=q-j)(e:Nat.ble 64 c=true):l≤c:=
 Nat.le_trans (h5▸Nat.le_trans (Nat.sub_le q j) (Nat.le_trans h4 (h2▸Nat.le_of_lt h1))) (Nat.le_of_ble_eq_true e)
theorem nrk4 (h2:m=n)(h1:n<64)(h4:q≤m)(h5:l=q-j):l≤64:=nrk3 h1 h2 h4 h5 rfl
theorem nsm (h:n≤9)(h1:x.natAbs≤65536)(h2:j≤n)(h3:k≤n):(2*(x-1)+2*(j:Int)+(k:Int)+1).natAbs<2^40:=
 Nat.lt_of_le_of_lt (naA (b:=1) (naA (b:=9) (naA (b:=18) (na2 (b:=131074) (Nat.le_trans (Int.natAbs_sub_le x 1) (Nat.add_le_add_right h1 1)) rfl) (na2 (Nat.le_trans h2 h) rfl)) (Nat.le_trans h3 h)) (Nat.le_refl 1)) (by decide)
theorem noch (h:¬2*a+1<b)(h2:c<b)(h3:0<c)(h4:(c-1)/2=a):P:=by
 rcases parO h3 h4 with rfl|rfl
 ·exact absurd h2 h
 ·exact absurd (Nat.lt_of_succ_lt h2) h
theorem h32 (h:a<32)(h2:b=2*a):b<64:=h2▸Nat.mul_lt_mul_of_pos_left h (by decide)
theorem ph2 (h:a<b)(h2:(c-1)/2=(b-1)/2):(c-1)/2≠b:=h2▸Nat.ne_of_lt (parS h)
theorem zb (h:a<b)(h2:b≤c)(e:decide ((c:Int)≤x)=true):(a:Int)<x:=Int.lt_of_lt_of_le (Int.ofNat_lt.mpr (Nat.lt_of_lt_of_le h h2)) (of_decide_eq_true e)
theorem zpos (h:0<a):(0:Int)<(a:Int):=Int.ofNat_lt.mpr h
theorem pdl (h:1≤a):a-1<a:=Nat.sub_lt h (by decide)
theorem zno (h:¬x<y)(h2:x≠y):y<x:=Int.lt_iff_le_and_ne.mpr ⟨Int.not_lt.mp h,Ne.symm h2⟩
theorem z64 (h:n<64):((n:Int)+1).natAbs<2^20:=Nat.lt_of_le_of_lt (Nat.succ_le_of_lt h) (by decide)
theorem hr1 (h2:a<(b-1)/2):((b-1)/2-1)/2<b:=Nat.lt_of_lt_of_le (parS h2) (Nat.le_trans (Nat.div_le_self _ _) (Nat.sub_le _ _))
theorem lt2 (h:1≤a):a<2*a:=Nat.two_mul a▸Nat.lt_add_of_pos_right h
theorem lt21:a<2*a+1:=Nat.lt_succ_of_le (Nat.le_mul_of_pos_left a Nat.two_pos)
theorem le21:a≤2*a+1:=Nat.le_of_lt lt21
theorem sb1 (h:a<b)(h1:c<a):a-1<b-1:=Nat.lt_sub_of_add_lt ((Nat.sub_add_cancel (Nat.succ_le_of_lt (Nat.zero_lt_of_lt h1))).symm▸h)
theorem sm1 (h:0<x)(h1:x<2^53):x.natAbs<2^53:=Int.ofNat_lt.mp ((Int.natAbs_of_nonneg (Int.le_of_lt h)).symm▸h1)
theorem sm1' (h:0<x∧x<1073741824):x.natAbs<1073741824:=Int.ofNat_lt.mp ((Int.natAbs_of_nonneg (Int.le_of_lt h.1)).symm▸h.2)
theorem sm3 (h:0<x)(h1:x+(y+z)<2^53)(h2:0<y)(h3:0≤z):(x+y).natAbs<2^53:=sm1 (Int.add_pos h h2) (Int.lt_of_le_of_lt (Int.add_le_add_left (Int.le_add_of_nonneg_right h3) x) h1)
theorem su5 (h:b+c=d)(h1:b<a)(h2:0<c):d-a<c:=h▸Nat.lt_of_le_of_lt (Nat.sub_le_sub_left (Nat.succ_le_of_lt h1) _) ((Nat.add_sub_add_left b c 1).symm▸Nat.sub_lt h2 Nat.one_pos)
theorem su5' (h:b+c=d)(h1:b<a)(h2:a<d):d-(a+1)<c:=Nat.lt_of_le_of_lt (Nat.sub_le_sub_left (Nat.le_succ a) d) (su5 h h1 (Nat.pos_of_ne_zero fun e=>absurd (Nat.lt_trans h1 h2) (by rw [←h,e];exact Nat.lt_irrefl _)))
theorem zpar (h:0<x):(x-1)/2≤x:=Int.le_trans (Int.ediv_le_self _ (Int.le_sub_one_of_lt h)) (Int.sub_le_self x (by decide))
theorem k5 (h:a+1+1+1+1+1+1+1<b)(h1:b<c)(h2:c<d)(h3:d<e):e≠a+1+1+1+1+1:=Nat.ne_of_gt (Nat.lt_trans (Nat.lt_of_succ_lt (Nat.lt_of_succ_lt h)) (Nat.lt_trans h1 (Nat.lt_trans h2 h3)))
theorem nlo (h:x.natAbs<2^50):-2^64<x:=Int.neg_lt_of_neg_lt (Int.lt_of_le_of_lt (Int.natAbs_neg x▸Int.le_natAbs (a:=-x)) (Int.lt_trans (Int.ofNat_lt.mpr h) (by decide)))
theorem zhf (h:a<64)(h1:b=a):(b:Int)/2<2^63:=h1▸Int.lt_of_le_of_lt (Int.ofNat_le.mpr (Nat.le_trans (Nat.div_le_self a 2) (Nat.le_of_lt h))) (by decide)
theorem nle (h:0≤x)(h1:x≤(a:Int)):x.natAbs≤a:=Int.ofNat_le.mp ((Int.natAbs_of_nonneg h).symm▸h1)
theorem dblt:n<2*n+2:=Nat.lt_of_lt_of_le lt21 (Nat.le_succ _)
theorem modC:(-1099511627776:Int)<x % 1099511627776∧x % 1099511627776<1099511627776:=⟨Int.lt_of_lt_of_le (by decide) (Int.emod_nonneg _ (by decide)),Int.emod_lt_of_pos _ (by decide)⟩
theorem LD (hK:0≤z)(h:x<z+y)(q:v<w):v*z+x<w*z+y:=
 Int.lt_of_lt_of_le (Int.add_lt_add_left h (v*z)) (Int.add_assoc (v*z) z y▸Int.add_le_add_right (Int.le_trans (Int.le_of_eq ((Int.add_mul v 1 z).trans (congrArg (fun t=>v*z+t) (Int.one_mul z))).symm) (Int.mul_le_mul_of_nonneg_right (Int.add_one_le_of_lt q) hK)) y)
theorem lexI (hK:0≤z)(h:x<z+y)(h2:y<z+x)(n:¬v=w):v<w↔v*z+x<w*z+y:=
 ⟨LD hK h,fun q=>(Int.lt_or_gt_of_ne n).elim id fun r=>absurd (Int.lt_trans q (LD hK h2 r)) (Int.lt_irrefl _)⟩
theorem lexL (hK:0≤z)(h:y<z+x)(q:v*z+x≤w*z+y):v≤w:=Int.not_lt.mp fun r=>Int.not_lt.mpr q (LD hK h r)
theorem b20 (h:-524288≤x∧x<524288)(h1:-524288≤y∧y<524288):x<1048576+y:=Int.lt_of_lt_of_le h.2 (Int.add_le_add_left (c:=1048576) h1.1)
theorem b12 (h:a<64∧b<64):((a:Int)*64+(b:Int))<4096+((c:Int)*64+(d:Int)):=
 Int.ofNat_lt.mpr (Nat.lt_of_lt_of_le (Nat.lt_succ_of_le (Nat.add_le_add (Nat.mul_le_mul_right 64 (Nat.le_of_lt_succ h.1)) (Nat.le_of_lt_succ h.2))) (Nat.le_add_right 4096 (c*64+d)))
theorem b6 (h:a<64):(a:Int)<64+(b:Int):=Int.ofNat_lt.mpr (Nat.lt_of_lt_of_le h (Nat.le_add_right 64 b))
theorem tk (k:Nat):a<a+k+1:=Nat.lt_succ_of_le (Nat.le_add_right a k)
theorem tl (k:Nat):a≤a+k:=Nat.le_add_right a k
theorem oc:1+x-1=x:=(congrArg (fun z=>z-1) (Int.add_comm 1 x)).trans (Int.add_sub_cancel x 1)
theorem evh (h:n % 2=0):(n+1)/2=n/2:=(congrArg (fun t=>(t+1)/2) (Nat.mul_div_cancel' (Nat.dvd_of_mod_eq_zero h)).symm).trans K8
theorem x1 (h:n % 2=0):(1+((0:Nat):Int))*((n:Int)+1)-((n/2:Nat):Int)*2=1:=
 (congrArg (fun z=>(1+((0:Nat):Int))*((n:Int)+1)-z) (congrArg Int.ofNat (Nat.div_mul_cancel (Nat.dvd_of_mod_eq_zero h)))).trans ((congrArg (fun z=>z-(n:Int)) (Int.one_mul _)).trans ((congrArg (fun z=>z-(n:Int)) (Int.add_comm _ _)).trans (Int.add_sub_cancel 1 _)))
theorem naC (h:-1099511627776<x∧x<1099511627776):x.natAbs<2^40:=
 Int.ofNat_lt.mp ((Int.natAbs_eq x).elim (fun e=>Int.lt_of_le_of_lt (Int.le_of_eq e.symm) h.2) fun e=>Int.lt_of_le_of_lt (Int.le_of_eq ((congrArg Neg.neg e).trans (Int.neg_neg _)).symm) (Int.neg_lt_of_neg_lt h.1))
end Ar
section
namespace Ar
variable{n0 n1 n2 n3 n4 n5 n6 n7 n8 n9 n10 n11 n12 n13 n14 n15:Nat}{z0 z1 z2 z3 z4 z5 z6 z7 z8 z9 z10 z11:Int}{p0 p1 p2 p3 p4 p5 p6 p7 p8 p9 p10 p11 p12 p13 p14 p15 pu1 pu2:Prop}
theorem q12 (h0:1≤n0)(h1:n0+(n1+1)≤n2):n0-1<n2:=Ar.pd1 h1
theorem q13 (h0:Int.natAbs z0≤1048576)(h1:n1≤64):Int.natAbs (2*(z0-1+(n1:Int)))<2^53:=Ar.nfl h0 h1
theorem q16 (h0:n0+n1=9)(h1:0<9-(n1:Int)):n1<9:=Int.ofNat_lt.mp (Int.lt_of_sub_pos h1)
theorem q17 (h0:¬2*n0+1<n1)(h1:n2<n1)(h2:0<n2)(h3:(n2-1)/2=n0):z3≤z4:=Ar.noch h0 h1 h2 h3
theorem q18 (h0:n0<32)(h1:n1=2*n0):n1<64:=Ar.h32 h0 h1
theorem q19 (h0:n0<n1)(h1:(n2-1)/2=(n1-1)/2):(n2-1)/2≠n1:=Ar.ph2 h0 h1
theorem q20 (h0:n0<n1)(h1:n1≤1000):(n0:Int)<2^63:=Ar.zb h0 h1 rfl
theorem q21 (h0:Int.natAbs z0≤1048576)(h1:n1<64)(h2:n2=n1)(h3:n3+n4=n2)(h4:n4<n5)(h5:n5≤n2):Int.natAbs (z0-1+(n4:Int))<1073741824:=Ar.nrk h0 h1 h2 h3 h4 h5
theorem q23 (h0:n0≤9)(h1:Int.natAbs z1≤65536)(h2:n2≤n0)(h3:n3≤n0):Int.natAbs (2*(z1-1)+2*(n2:Int)+(n3:Int)+1)<2^40:=Ar.nsm h0 h1 h2 h3
theorem q24 (h0:1≤n0):n0-1<n0:=Ar.pdl h0
theorem q25 (h0:¬z0<z1)(h1:z0≠z1):z1<z0:=Ar.zno h0 h1
theorem q27 (h0:n0+(n1+1)≤n2):n0<n2:=Ar.pd0 h0
theorem q29 (h0:Int.natAbs z0≤1048576)(h1:n1≤64)(h2:n2≤64):Int.natAbs (2*(z0-1+(n1:Int))+((n2:Int)+1))<2^53:=Ar.nfl2 h0 h1 h2
theorem q30 (h0:0<n0):0<(n0:Int):=Ar.zpos h0
theorem q31 (h0:n0<64):Int.natAbs ((n0:Int)+1)<2^20:=Ar.z64 h0
theorem q32 (h0:n0≤(n1-1)/2)(h1:n0<(n1-1)/2):((n1-1)/2-1)/2≠n1:=Nat.ne_of_lt (Ar.hr1 h1)
theorem q33 (h0:n0+n1=9)(h1:9-(n1:Int)≤0):n1=9:=Nat.le_antisymm (h0▸Nat.le_add_left _ _) (Int.ofNat_le.mp (Int.le_of_sub_nonpos h1))
theorem q34 (h0:n0≤(n1-1)/2)(h1:n0<(n1-1)/2):n1≠((n1-1)/2-1)/2:=Nat.ne_of_gt (Ar.hr1 h1)
theorem q35 (h0:n0≤81)(h1:n1+n2=n3)(h2:n4=n2)(h3:n3=n0)(h4:n2<n3):n4≤1000:=Nat.le_trans (h2▸Nat.le_of_lt h4) (Nat.le_trans (h3▸h0) (by decide))
theorem q36 (h0:0<n0):n0≠(n0-1)/2:=Nat.ne_of_gt (Ar.parS h0)
theorem q39 (h0:1≤n0)(h1:n1=2*n0):(n1-1)/2=Int.toNat ((n0:Int)-1):=h1▸Ar.ev2.trans Ar.tn1.symm
theorem q40 (h0:n0+n1=n2)(h1:0<n1)(h2:n3=n2):(n0:Int)<(n3:Int):=Int.ofNat_lt.mpr (h2▸h0▸Nat.lt_add_of_pos_right h1)
theorem q41 (h0:n0<n1)(h1:1≤n1)(h2:¬n0=n1-1):n0<n1-1:=Nat.lt_of_le_of_ne (Nat.le_sub_one_of_lt h0) h2
theorem q43 (h0:n0<64)(h1:n1=n0)(h2:n2+n3=n1)(h3:n4≤n1)(h4:n5=n4-n3):Int.natAbs ((n5:Int)+1)<1073741824:=Ar.nrk2 h0 h1 h3 h4
theorem q44 (h0:n0<n1)(h1:n1<n2):n2-1-n1<n2-1-n0:=Nat.sub_lt_sub_left (Nat.lt_of_lt_of_le h0 (Nat.le_sub_one_of_lt h1)) h0
theorem q45 (h0:0<n0)(h1:(n0-1)/2=n1)(h2:0<n2)(h3:(n2-1)/2=n0):n1≠n2:=Nat.ne_of_lt (Nat.lt_trans (h1▸Ar.parS h0) (h3▸Ar.parS h2))
theorem q46 (h0:0<n0)(h1:(n0-1)/2=n1)(h2:0<n2)(h3:(n2-1)/2=n0):n2≠n1:=Nat.ne_of_gt (Nat.lt_trans (h1▸Ar.parS h0) (h3▸Ar.parS h2))
theorem q47 (h0:n0+(n1+1)=n2):n0<n2:=Ar.pd3 h0
theorem q48 (h0:n0≤n1)(h1:n2<n1-n0):n0<n1:=Nat.lt_of_sub_pos (Nat.zero_lt_of_lt h1)
theorem q49 (h0:n0≤9):n0<2^62:=Nat.lt_of_le_of_lt h0 (by decide)
theorem q50 (h0:z0≤171)(h1:0≤z0):Int.natAbs (2*z0)<2^53:=Nat.lt_of_le_of_lt (Ar.na2 (b:=342) (Ar.nle (a:=171) h1 h0) rfl) (by decide)
theorem q51 (h0:n0≤n1)(h1:n2<min (n0-n3) (n1-n3)):n2<n0-n3:=Nat.lt_of_lt_of_le h1 (Nat.min_le_left _ _)
theorem q53 (h0:n0<64)(h1:n1+n2=n0)(h2:¬(n0:Int)-1<1+(n2:Int)):1+(n2:Int)<2^64:=Int.lt_of_le_of_lt (Int.add_le_add_left (Int.ofNat_le.mpr (Nat.le_trans (h1▸Nat.le_add_left _ _) (Nat.le_of_lt h0))) 1) (by decide)
theorem q54 (h0:n0<64)(h1:n1=n0):n1<2^62:=h1▸Nat.lt_of_lt_of_le h0 (by decide)
theorem q55 (h0:2*n0+1<n1):n1-(2*n0+1)<n1-n0:=Ar.su3 h0
theorem q57 (h0:n0<n1)(h1:n1<n2∧n0<n2):n0<n2:=h1.2
theorem q58 (h0:n0<n1)(h1:n1≤n2)(h2:n3+n4=n1-n0)(h3:min (n1-n0) (n2-n0)≤n4):n0+n4=n1:=(congrArg (n0+ ·) (Nat.le_antisymm (h2▸Nat.le_add_left _ _) (Nat.min_eq_left (Nat.sub_le_sub_right h1 n0)▸h3))).trans (Nat.add_sub_cancel' (Nat.le_of_lt h0))
theorem q59 (h0:n0+n1=n2):-2^64<1+(n1:Int):=Int.lt_of_lt_of_le (by decide) (Int.add_nonneg (by decide) (Int.natCast_nonneg n1))
theorem q60 (h0:n0<n1)(h1:n1≤n2):z3-1+(n0:Int)+(((min (n1-n0) (n2-n0)):Nat):Int)=z3-1+(n1:Int):=by rw [Nat.min_eq_left (Nat.sub_le_sub_right h1 n0),Int.add_assoc,←Int.natCast_add,Nat.add_sub_cancel' (Nat.le_of_lt h0)]
theorem q61 (h0:n0<n1∧n2<n1∧n3<n1)(h1:n1<n4):n2≠n4:=Ar.neTr h0.2.1 h1
theorem q62 (h0:n0<n1∧n2<n1∧n3<n1)(h1:n1<n4):n4≠n0:=Ar.neTr' h0.1 h1
theorem q63 (h0:n0<n1∧n2<n1∧n3<n1)(h1:n1<n4):n0≠n4:=Ar.neTr h0.1 h1
theorem q67 (h0:n0<n1)(h1:n1≤n2)(h2:n3<min (n1-n0) (n2-n0)):n0+n3<n2:=Nat.lt_of_lt_of_le (Nat.add_lt_of_lt_sub' (Nat.lt_of_lt_of_le h2 (Nat.min_le_left _ _))) h1
theorem q69 (h0:n0<n1∧n0<n2):n1≠n0:=Nat.ne_of_gt h0.1
theorem q70 (h0:n0<n1)(h1:n1≤n2)(h2:n3<min (n1-n0) (n2-n0)):n0+n3<n1:=Nat.add_lt_of_lt_sub' (Nat.lt_of_lt_of_le h2 (Nat.min_le_left _ _))
theorem q72 (h0:n0<n1∧n2<n1∧n3<n1)(h1:n1<n4):n3≠n4:=Ar.neTr h0.2.2 h1
theorem q73 (h0:1≤n0)(h1:n1=2*n0)(h2:n2=n1):(n0:Int)<(n2:Int):=Int.ofNat_lt.mpr (h2▸h1▸Ar.lt2 h0)
theorem q74 (h0:0≤z0)(h1:z0<(n1:Int)):Int.toNat z0<n1:=(Int.toNat_lt h0).mpr h1
theorem q75 (h0:1≤n0):n0≠n0-1:=Nat.ne_of_gt (Ar.pdl h0)
theorem q76 (h0:n0<32)(h1:p1):(n0:Int)-1<2^63:=Int.lt_of_le_of_lt (Int.sub_le_self _ (by decide)) (Ar.zb h0 (Nat.le_refl 32) rfl)
theorem q77 (h0:n0=2*n1+1)(h1:n2=n3)(h2:(n0:Int)<(n3:Int))(h3:(n0:Int)+1<(n3:Int)):(n0:Int)+1<(n2:Int):=h1▸h3
theorem q78 (h0:n0<n1)(h1:n2<n0):n0-1<n1-1:=Ar.sb1 h0 h1
theorem q79 (h0:n0<n1∧n2<n1)(h1:n1<n3):n3≠n0:=Ar.neTr' h0.1 h1
theorem q80 (h0:n0<n1∧n2<n1)(h1:n1<n3):n0≠n3:=Ar.neTr h0.1 h1
theorem q81 (h0:n0<32)(h1:p1):(n0:Int)<2^63:=Ar.zb h0 (Nat.le_refl 32) rfl
theorem q82 (h0:n0<n1∧n2<n1∧n3<n1∧n2<n0∧n3<n0):n2≠n0:=Nat.ne_of_lt h0.2.2.2.1
theorem q84 (h0:n0<n1∧n0<n2):n2≠n0:=Nat.ne_of_gt h0.2
theorem q85 (h0:2≤n0)(h1:1≤n1)(h2:n1≤1+(n0-1))(h3:¬n1=n0):n1-1<n0:=Nat.lt_of_lt_of_le (Ar.pdl h1) (Nat.le_trans h2 (Nat.le_of_eq (Nat.add_sub_cancel' (Nat.le_of_succ_le h0))))
theorem q86 (h0:n0≤1000)(h1:n1=2*n2+1)(h2:(n1:Int)+1<(n0:Int)):(n1:Int)+1<2^63:=Int.lt_trans h2 (Int.lt_of_le_of_lt (Int.ofNat_le.mpr h0) (by decide))
theorem q88 (h0:n0≤1000)(h1:n1=2*n2+1)(h2:(n1:Int)+1<(n0:Int)):(n1:Int)<2^63:=Int.lt_trans (Int.lt_succ _) (Int.lt_trans h2 (Int.lt_of_le_of_lt (Int.ofNat_le.mpr h0) (by decide)))
theorem q89 (h0:n0<n1∧n2<n1∧n3<n1∧n2<n0∧n3<n0):n1≠n0:=Nat.ne_of_gt h0.1
theorem q91 (h0:n0-n1≤n2+1)(h1:¬n1≥n0)(h2:n1≤n3):n0-(n3+1)≤n2:=Nat.sub_le_of_le_add (Nat.le_trans (Nat.le_trans (Nat.sub_le_iff_le_add.mp h0) (Nat.le_of_eq (by rw [Nat.add_assoc,Nat.add_comm 1]))) (Nat.add_le_add_left (Nat.succ_le_succ h2) n2))
theorem q92 (h0:n0<n1∧n2<n1)(h1:n1<n3):n2≠n3:=Ar.neTr h0.2 h1
theorem q93 (h0:2≤n0)(h1:n1≤1+1+(n0-(1+1))):n1≤n0:=Nat.le_trans h1 (Nat.le_of_eq (Nat.add_sub_cancel' h0))
theorem q95 (h0:n0≤900)(h1:n1+n2=n0)(h2:n3≤n2):min (n2-n3) n4≤1000:=Nat.le_trans (Nat.min_le_left _ _) (Nat.le_trans (Nat.sub_le _ _) (Nat.le_trans (h1▸Nat.le_add_left _ _) (Nat.le_trans h0 (by decide))))
theorem q97 (h0:n0≤1000)(h1:n1=2*n2+1)(h2:(n1:Int)+1<(n0:Int)):(n2:Int)<2^63:=Int.lt_of_le_of_lt (Int.ofNat_le.mpr (h1▸Ar.le21)) (Int.lt_trans (Int.lt_succ _) (Int.lt_trans h2 (Int.lt_of_le_of_lt (Int.ofNat_le.mpr h0) (by decide))))
theorem q99 (h0:n0<n1)(h1:n1≤n2):0+(min (n1-n0) (n2-n0)+0)=n1-n0:=(Nat.zero_add _).trans (Nat.min_eq_left (Nat.sub_le_sub_right h1 n0))
theorem q100 (h0:n0<n1∧n2<n1∧n3<n1∧n2<n0∧n3<n0):n3≠n0:=Nat.ne_of_lt h0.2.2.2.2
theorem q103 (h0:n0=2*n1+1)(h1:n2=n3)(h2:(n0:Int)+1<(n3:Int)):(n0:Int)<(n2:Int):=h1▸Int.lt_trans (Int.lt_succ _) h2
theorem q104 (h0:2≤n0)(h1:¬1=n0)(h2:n1≤1+1+(n0-(1+1))):n1+(n0-n1)≤n0:=Nat.le_of_eq (Nat.add_sub_cancel' (Nat.le_trans h2 (Nat.le_of_eq (Nat.add_sub_cancel' h0))))
theorem q107 (h0:n0<n1)(h1:n1<n2):n2-1-n0<n2:=Nat.lt_of_le_of_lt (Nat.sub_le _ _) (Ar.pdl (Nat.zero_lt_of_lt h1))
theorem q109 (h0:n0-n1≤n2+1)(h1:n3<n0):n3-n1≤n2:=Nat.sub_le_of_le_add (Nat.le_of_lt_succ (Nat.lt_of_lt_of_le h1 (Nat.le_trans (Nat.sub_le_iff_le_add.mp h0) (Nat.le_of_eq (Nat.succ_add n2 n1)))))
theorem q110 (h0:n0=0):n0<2^62:=h0▸(by decide)
theorem q112 (h0:n0=9)(h1:n1+n2=9)(h2:0<9-(n2:Int)):(n2:Int)<(n0:Int):=h0▸Int.lt_of_sub_pos h2
theorem q113 (h0:n0+n1=9)(h1:n2=n3)(h2:n3≤n1)(h3:0<9-(n1:Int)):n2≤1000:=Nat.le_trans (h1▸h2) (Nat.le_trans (Nat.le_add_left n1 n0) (h0▸(by decide)))
theorem q114 (h0:n0<n1∧n2<n1∧n3<n1):n1≠n0:=Nat.ne_of_gt h0.1
theorem q115 (h0:0<z0)(h1:z0+(z1+z2)<2^53)(h2:0<z1)(h3:0≤z2):Int.natAbs (z0+z1)<2^53:=Ar.sm3 h0 h1 h2 h3
theorem q117 (h0:n0≤400):n0+1+1<1000:=Nat.lt_of_le_of_lt (Nat.add_le_add_right h0 2) (by decide)
theorem q119 (h0:n0≤400):n0+1<1000:=Nat.lt_of_le_of_lt (Nat.add_le_add_right h0 1) (by decide)
theorem q120 (h0:n0<32)(h1:n1=2*n0):n1<2^62:=h1▸Nat.lt_of_lt_of_le (Nat.mul_lt_mul_of_pos_left h0 Nat.two_pos) (by decide)
theorem q121 (h0:n0+n1=n2)(h1:n1<n3)(h2:n3≤n2):n2-n3<n0∧n2-n3+n3=n2:=⟨Nat.lt_of_lt_of_le (Nat.sub_lt_sub_left (Nat.lt_of_lt_of_le h1 h2) h1) (Nat.le_of_eq (Nat.sub_eq_of_eq_add h0.symm)),Nat.sub_add_cancel h2⟩
theorem q122 (h0:n0=2*n1+1)(h1:n1+n2=n3)(h2:0<n2):n3-n0<n2:=Ar.su5 h1 (h0▸Ar.lt21) h2
theorem q123 (h0:n0<n1)(h1:n1<n2):n0≠n2:=Nat.ne_of_lt (Nat.lt_trans h0 h1)
theorem q124 (h0:n0+n1=9)(h1:0<9-(n1:Int)):(n1:Int)<2^63:=Int.lt_of_lt_of_le (Int.lt_of_sub_pos h1) (by decide)
theorem q125 (h0:n0<n1)(h1:n1<n2+1)(h2:n3<n0):n1-1<n2:=Nat.lt_of_lt_of_le (Ar.pdl (Nat.zero_lt_of_lt h0)) (Nat.le_of_lt_succ h1)
theorem q126 (h0:n0+n1=n2)(h1:n1<n2):n0-1<n0∧n0-1+(n1+1)=n2:=⟨Ar.cdP h0 h1,Ar.cd h0 h1⟩
theorem q127 (h0:n0<n1)(h1:n0≤(n1-1)/2):(n1-1)/2≠n1:=Nat.ne_of_lt (Ar.parS h0)
theorem q128 (h0:¬n0=n1)(h1:¬n1<n0)(h2:n1<n2)(h3:¬n0=n2-1):n0<n2-1:=Nat.lt_of_le_of_ne (Nat.le_sub_one_of_lt (Nat.lt_of_le_of_lt (Nat.le_of_not_lt h1) h2)) h3
theorem q129 (h0:n0<n1)(h1:n0≤(n1-1)/2):n1≠(n1-1)/2:=Nat.ne_of_gt (Ar.parS h0)
theorem q130 (h0:0<z0)(h1:z0+(z1+z2)<2^53)(h2:0<z1)(h3:0≤z2):Int.natAbs z0<2^53:=Ar.sm1 h0 (Int.lt_of_le_of_lt (Int.le_add_of_nonneg_right (Int.add_nonneg (Int.le_of_lt h2) h3)) h1)
theorem q132 (h0:n0=2*n1+1)(h1:n1+n2=n3)(h2:(n0:Int)<(n3:Int)):n3-(n0+1)<n2:=Ar.su5' h1 (h0▸Ar.lt21) (Int.ofNat_lt.mp h2)
theorem q133 (h0:n0<n1∧n2+1<n1∧n3<n1∧n4<n1∧n5<n1):n2+1≠n1:=Nat.ne_of_lt h0.2.1
theorem q134 (h0:n0<n1)(h1:(n2:Int)<(n0:Int)):((n0:Int)-1)/2<(n1:Int):=Int.lt_of_le_of_lt (Ar.zpar (Int.lt_of_le_of_lt (Int.natCast_nonneg n2) h1)) (Int.ofNat_lt.mpr h0)
theorem q136 (h0:0<z0)(h1:z0+(z1+z2)<2^53)(h2:0<z1)(h3:0≤z2):Int.natAbs z1<2^53:=Ar.sm1 h2 (Int.lt_of_le_of_lt (Int.le_trans (Int.le_add_of_nonneg_right h3) (Int.le_add_of_nonneg_left (Int.le_of_lt h0))) h1)
theorem q137 (h0:n0<n1∧n2+1<n1∧n3<n1∧n4<n1∧n5<n1):n4≠n1:=Nat.ne_of_lt h0.2.2.2.1
theorem q139 (h0:n0<n1∧n2+1<n1∧n3<n1∧n4<n1∧n5<n1):n3≠n1:=Nat.ne_of_lt h0.2.2.1
theorem q141 (h0:n0<n1)(h1:n1≤1000):((n0:Int)-1)/2<2^63:=Int.lt_of_le_of_lt (Int.le_trans (Int.ediv_le_ediv (by decide) (Int.sub_le_self _ (by decide))) (Int.ofNat_le.mpr (Nat.div_le_self n0 2))) (Ar.zb h0 h1 rfl)
theorem q142 (h0:n0<n1∧n2<n1):n1≠n0:=Nat.ne_of_gt h0.1
theorem q143 (h0:n0+n1=n2)(h1:n3=n1)(h2:n2≤81)(h3:n1<n2):n3≤1000:=Nat.le_trans (h1▸Nat.le_of_lt h3) (Nat.le_trans h2 (by decide))
theorem q144 (h0:n0<n1∧n2+1<n1∧n3<n1∧n4<n1∧n5<n1):n0≠n1:=Nat.ne_of_lt h0.1
theorem q145 (h0:(n0:Int)<(n1:Int))(h1:((n1:Int)-1)/2=((((n1-1)/2):Nat):Int)):(n1-1)/2<n1:=Ar.parS (Int.ofNat_lt.mp h0)
theorem q146 (h0:0<z0)(h1:0<z1)(h2:z0+z1<2^53):Int.natAbs (-z0)<2^53:=(Int.natAbs_neg z0).symm▸Ar.sm1 h0 (Int.lt_of_le_of_lt (Int.le_add_of_nonneg_right (Int.le_of_lt h1)) h2)
theorem q147 (h0:n0<n1)(h1:n1<n2+1)(h2:n0=n3):n1-1<n2:=Nat.lt_of_lt_of_le (Ar.pdl (Nat.zero_lt_of_lt h0)) (Nat.le_of_lt_succ h1)
theorem q148 (h0:n0<n1∧n2+1<n1∧n3<n1∧n4<n1∧n5<n1):n5≠n1:=Nat.ne_of_lt h0.2.2.2.2
theorem q149 (h0:0<z0)(h1:0<z1)(h2:z0+z1<2^53):Int.natAbs (z0+z1)<2^53:=Ar.sm1 (Int.add_pos h0 h1) h2
theorem q150 (h0:n0<64)(h1:n1=n0)(h2:n2+n3=n1)(h3:n4≤n1)(h4:n5=n4-n3):n5≤1000:=Ar.nrk3 h0 h1 h3 h4 rfl
theorem q154 (h0:n0=2*n1+1)(h1:(n0:Int)<(n2:Int))(h2:(n0:Int)+1<(n2:Int)):0<n2-(n0+1):=Nat.sub_pos_of_lt (Int.ofNat_lt.mp h2)
theorem q155 (h0:0<z0)(h1:0<z1)(h2:z0+z1<2^53):Int.natAbs z0<2^53:=Ar.sm1 h0 (Int.lt_of_le_of_lt (Int.le_add_of_nonneg_right (Int.le_of_lt h1)) h2)
theorem q156 (h0:z0<2^53)(h1:0<z0):Int.natAbs (2*0+z0)<2^53:=Ar.sm1 ((Int.zero_add z0).symm▸h1) ((Int.zero_add z0).symm▸h0)
theorem q157 (h0:0<z0)(h1:0<z1)(h2:z0+z1<2^53):Int.natAbs z1<2^53:=Ar.sm1 h1 (Int.lt_of_le_of_lt (Int.le_add_of_nonneg_left (Int.le_of_lt h0)) h2)
theorem q158 (h0:n0<n1)(h1:n2≤n0)(h2:n3<n2):n3<n1:=Nat.lt_trans (Nat.lt_of_lt_of_le h2 h1) h0
theorem q160 (h0:2*(z0*z1)=2*z2):z2=z0*z1:=(Int.eq_of_mul_eq_mul_left (by decide) h0).symm
theorem q161 (h0:n0≤5000)(h1:n1=9900):n0+3+64<n1:=h1▸Nat.lt_of_le_of_lt (Nat.add_le_add_right h0 67) (by decide)
theorem q162 (h0:n0≤2000)(h1:n1=9900):n0+3+64<n1:=h1▸Nat.lt_of_le_of_lt (Nat.add_le_add_right h0 67) (by decide)
theorem q163 (h0:n0<n1+1)(h1:n2<n0):n0-1<n1:=Nat.lt_of_lt_of_le (Ar.pdl (Nat.zero_lt_of_lt h1)) (Nat.le_of_lt_succ h0)
theorem q164 (h0:0<n0)(h1:(n0-1)/2=n1)(h2:(n2-1)/2=n0):(n2-1)/2≠n1:=Nat.ne_of_gt (h2▸h1▸Ar.parS h0)
theorem q165 (h0:z0<z1):z0≤z1:=Int.le_of_lt h0
theorem q166 (h0:n0≤n1):n1-(n1-n0)=n0:=Nat.sub_sub_self h0
theorem q167 (h0:0<n0)(h1:(n0-1)/2=n1):n1≠n0:=Nat.ne_of_lt (h1▸Ar.parS h0)
theorem q169 (h0:Int.toNat z0=Int.toNat z1)(h1:0≤z0∧z0<(n2:Int))(h2:0≤z1∧z1<(n2:Int)):z0=z1:=(Int.toNat_of_nonneg h1.1).symm.trans ((congrArg Nat.cast h0).trans (Int.toNat_of_nonneg h2.1))
theorem q170 (h0:n0≤64):Int.natAbs ((n0:Int)+1)<2^53:=Ar.nfl3 h0
theorem q171 (h0:n0<n1)(h1:n0=n2):n2≤n1-1:=h1▸Nat.le_sub_one_of_lt h0
theorem q173 (h0:n0+1+1+1+1+1+1+1<n1)(h1:n1<n2)(h2:n2<n3)(h3:n3<n4):n4≠n0+1+1+1+1+1:=Ar.k5 h0 h1 h2 h3
theorem q174 (h0:0<z0∧z0<1073741824):Int.natAbs z0<1073741824:=Ar.sm1' h0
theorem q175 (h0:n0=2*n1+1):0≤(n0:Int):=Int.natCast_nonneg n0
theorem q176 (h0:n0=n1)(h1:n1<64)(h2:n2≤n0)(h3:n3=n2-n4):n3≤64:=Ar.nrk4 h0 h1 h2 h3
theorem q177 (h0:z0<2^53)(h1:0<z0):Int.natAbs z0<2^53:=Ar.sm1 h1 h0
theorem q178 (h0:n0+1<n1∧n2<n1):n2<n1:=h0.2
theorem q183 (h0:n0=2*n1+1)(h1:n1+n2=n3)(h2:n4=n3)(h3:(n0:Int)<(n3:Int))(h4:¬(n0:Int)+1<(n3:Int)):(n1:Int)<(n4:Int):=Int.ofNat_lt.mpr (h2▸Nat.lt_trans Ar.lt21 (h0▸Int.ofNat_lt.mp h3))
theorem q184 (h0:Int.natAbs z0<2^50):z0<2^64:=Int.lt_of_le_of_lt Int.le_natAbs (Int.lt_trans (Int.ofNat_lt.mpr h0) (by decide))
theorem q185 (h0:Int.natAbs z0<2^50):-2^64<z0:=Ar.nlo h0
theorem q187:Int.natAbs (2*z0)=2*Int.natAbs z0:=Int.natAbs_mul 2 z0
theorem q189 (h0:(n0:Int)<(n1:Int)):0≤((n1:Int)-1)/2:=Int.ediv_nonneg (Int.le_sub_one_of_lt (Int.lt_of_le_of_lt (Int.natCast_nonneg n0) h0)) (by decide)
theorem q190 (h0:n0+0=3):n0-1<n0:=by obtain rfl:=(show n0=3 from h0);decide
theorem q191 (h0:n0+1+1+1+1+1+1+1<n1)(h1:n1<n2)(h2:n2<n3):n3≠n0+1+1+1+1+1:=Nat.ne_of_gt (Nat.lt_trans (Nat.lt_of_succ_lt (Nat.lt_of_succ_lt h0)) (Nat.lt_trans h1 h2))
theorem q192 (h0:0≤z0∧z0<65536):Int.natAbs (-z0)≤65536:=(Int.natAbs_neg z0).symm▸Ar.nle (a:=65536) h0.1 (Int.le_of_lt h0.2)
theorem q193 (h0:n0+1=3):n0-1<n0:=by obtain rfl:=(show n0=2 from Nat.succ.inj h0);decide
theorem q195 (h0:2≤n0):1<1+(n0-1):=Nat.lt_of_lt_of_le h0 (Nat.le_of_eq (Nat.add_sub_cancel' (Nat.le_of_succ_le h0)).symm)
theorem q196 (h0:n0≤n1)(h1:n2<n1-n0)(h2:n2>0):n0<n1:=Nat.lt_of_sub_pos (Nat.zero_lt_of_lt h1)
theorem q197 (h0:n0≤2000)(h1:n1≤52)(h2:n2+n1=52):n0-n2≤2001:=Nat.le_trans (Nat.sub_le _ _) (Nat.le_succ_of_le h0)
theorem q198 (h0:n0+n1=9):n1=9-n0:=Nat.eq_sub_of_add_eq (Nat.add_comm n1 n0▸h0)
theorem q200 (h0:n0+2=3):n0-1<n0:=by obtain rfl:=(show n0=1 from Nat.succ.inj (Nat.succ.inj h0));decide
theorem q201 (h0:n0<n1∧n2<n1):n0<n1:=h0.1
theorem q202 (h0:n0<64)(h1:n1=n0)(h2:(n1:Int)% 2≠1):(n1:Int)/2-1<2^63:=Int.lt_of_le_of_lt (Int.sub_le_self _ (by decide)) (Ar.zhf h0 h1)
theorem q203 (h0:n0≤52):52-n0+n0=52:=Nat.sub_add_cancel h0
theorem q205 (h0:n0+1≤n1):n0≤n1:=Nat.le_of_succ_le h0
theorem q207 (h0:n0+0=3):n0-1+(0+1)=3:=by obtain rfl:=(show n0=3 from h0);decide
theorem q209 (h0:n0=9):n0<2^62:=h0▸(by decide)
theorem q210 (h0:52≤n0)(h1:n1+n2=52):n1+(n0-n1)=n0:=Nat.add_sub_cancel' (Nat.le_trans (h1▸Nat.le_add_right n1 n2) h0)
theorem q211 (h0:2≤n0)(h1:¬1=n0):1+1+(n0-(1+1))≤n0:=Nat.le_of_eq (Nat.add_sub_cancel' h0)
theorem q213 (h0:n0 % 2=0)(h1:n0<64):(((n0/2):Nat):Int)-1<2^63:=Int.lt_of_le_of_lt (Int.sub_le_self _ (by decide)) (Ar.zb (Nat.lt_of_le_of_lt (Nat.div_le_self _ _) h1) (Nat.le_refl 64) rfl)
theorem q214 (h0:n0+(n1+1)≤n2):n0+1+n1≤n2:=Ar.pd2 h0
theorem q215 (h0:n0<n1-n2):n2+n0<n1:=Nat.add_lt_of_lt_sub' h0
theorem q216 (h0:n0≤1000)(h1:n1=2*n2+1)(h2:(n1:Int)<(n0:Int))(h3:¬(n1:Int)+1<(n0:Int)):(n1:Int)<2^63:=Int.lt_of_lt_of_le h2 (Int.le_trans (Int.ofNat_le.mpr h0) (by decide))
theorem q217 (h0:n0<n1+1)(h1:¬n0<n1):n0=n1:=Nat.le_antisymm (Nat.le_of_lt_succ h0) (Nat.le_of_not_lt h1)
theorem q220 (h0:n0≤1000)(h1:n1=2*n2+1)(h2:(n1:Int)<(n0:Int))(h3:¬(n1:Int)+1<(n0:Int)):(n2:Int)<2^63:=Int.lt_of_le_of_lt (Int.ofNat_le.mpr (h1▸Ar.le21)) (Int.lt_of_lt_of_le h2 (Int.le_trans (Int.ofNat_le.mpr h0) (by decide)))
theorem q221 (h0:n0<64)(h1:n1+n2=n0)(h2:0<(n0:Int)-(n2:Int))(h3:(n0:Int)-1<1+(n2:Int)):1+(n2:Int)<2^64:=Int.lt_of_le_of_lt (Int.add_le_add_left (Int.ofNat_le.mpr (Nat.le_trans (h1▸Nat.le_add_left _ _) (Nat.le_of_lt h0))) 1) (by decide)
theorem q222 (h0:n0≤n1)(h1:n2<n1-n0):n0+n2<n1:=Nat.add_lt_of_lt_sub' h1
theorem q223 (h0:n0+1=3):n0-1+(1+1)=3:=by obtain rfl:=(show n0=2 from Nat.succ.inj h0);decide
theorem q224 (h0:n0=2*n1+1):0≤(n1:Int):=Int.natCast_nonneg n1
theorem q225 (h0:1≤n0)(h1:n1=2*n0):0<n1:=h1▸Nat.mul_pos Nat.two_pos h0
theorem q227 (h0:n0+2=3):n0-1+(2+1)=3:=by obtain rfl:=(show n0=1 from Nat.succ.inj (Nat.succ.inj h0));decide
theorem q228 (h0:n0 % 2=0)(h1:n0<64):(((n0/2):Nat):Int)<2^64:=Ar.zb (Nat.lt_of_le_of_lt (Nat.div_le_self _ _) h1) (Nat.le_refl 64) rfl
theorem q229 (h0:1≤n0):0≤(n0:Int)-1:=Int.sub_nonneg_of_le (Int.ofNat_le.mpr h0)
theorem q232 (h0:¬z0≥0)(h1:-z0=(n1:Int)):Int.toNat (-z0)=n1:=congrArg Int.toNat h1
theorem q233 (h0:n0+1+1+1+1+1+1+1<n1)(h1:n1<n2):n2≠n0+1+1+1+1+1:=Nat.ne_of_gt (Nat.lt_trans (Nat.lt_of_succ_lt (Nat.lt_of_succ_lt h0)) h1)
theorem q234 (h0:n0+1+1+1+1+1+1+1<n1)(h1:n1<n2):n2≠n0+1+1+1+1:=Nat.ne_of_gt (Nat.lt_trans (Nat.lt_of_succ_lt (Nat.lt_of_succ_lt (Nat.lt_of_succ_lt h0))) h1)
theorem q235 (h0:n0 % 2=0)(h1:n0<64)(h2:n1=n0):n1<2^62:=h2▸Nat.lt_of_lt_of_le h1 (by decide)
theorem q236 (h0:n0 % 2=0)(h1:n0<64):(((n0/2):Nat):Int)<2^63:=Ar.zb (Nat.lt_of_le_of_lt (Nat.div_le_self _ _) h1) (Nat.le_refl 64) rfl
theorem q240 (h0:2≤n0):1+(n0-1)≤n0:=Nat.le_of_eq (Nat.add_sub_cancel' (Nat.le_of_succ_le h0))
theorem q241 (h0:n0≤400):n0+1+1+1<1000:=Nat.lt_of_le_of_lt (Nat.add_le_add_right h0 3) (by decide)
theorem q243 (h0:n0<64)(h1:n1+n2=n0)(h2:¬(n0:Int)-1<1+(n2:Int)):1+(n2:Int)<2^63:=Int.lt_of_le_of_lt (Int.add_le_add_left (Int.ofNat_le.mpr (Nat.le_trans (h1▸Nat.le_add_left _ _) (Nat.le_of_lt h0))) 1) (by decide)
theorem q244 (h0:n0<64)(h1:n1=n0)(h2:(n1:Int)% 2=1):(n1:Int)/2<2^63:=Ar.zhf h0 h1
theorem q245 (h0:0<z0∧z0<1073741824):z0≠0:=Int.ne_of_gt h0.1
theorem q246 (h0:n0+n1=9):0≤(n1:Int):=Int.natCast_nonneg n1
theorem q247 (h0:2≤n0)(h1:n0 % 2=0)(h2:n1=n0):(((n0/2):Nat):Int)-1<(n1:Int):=by subst h2;exact Int.lt_of_le_of_lt (Int.sub_le_self _ (by decide)) (Int.ofNat_lt.mpr (Nat.div_lt_self (Nat.lt_of_lt_of_le Nat.two_pos h0) Nat.one_lt_two))
theorem q250 (h0:1≤n0)(h1:n1=2*n0):2≤n1:=h1▸Nat.mul_le_mul_left 2 h0
theorem q251 (h0:2≤n0)(h1:n0 % 2=0)(h2:n1=n0):(((n0/2):Nat):Int)<(n1:Int):=by subst h2;exact Int.ofNat_lt.mpr (Nat.div_lt_self (Nat.lt_of_lt_of_le Nat.two_pos h0) Nat.one_lt_two)
theorem q252 (h0:n0<64)(h1:n1+n2=n0)(h2:n3=n2)(h3:0<(n0:Int)-(n2:Int))(h4:(n0:Int)-1<1+(n2:Int)):n3≤16777216:=Nat.le_trans (h2▸h1▸Nat.le_add_left n2 n1) (Nat.le_trans (Nat.le_of_lt h0) (by decide))
theorem q253 (h0:0<n0)(h1:n1=n0)(h2:(n1:Int)% 2≠1):(n1:Int)/2-1<(n1:Int):=Int.lt_of_le_of_lt (Int.sub_le_self _ (by decide)) (Int.ofNat_lt.mpr (Nat.div_lt_self (h1▸h0) Nat.one_lt_two))
theorem q255 (h0:0<z0∧z0<1073741824):0≤z0:=Int.le_of_lt h0.1
theorem q256 (h0:0≤z0∧z0<(n1:Int)):Int.toNat z0<n1:=(Int.toNat_lt h0.1).mpr h0.2
theorem q257 (h0:n0<64)(h1:n1+n2=n0)(h2:n3=n2)(h3:¬(n0:Int)-1<1+(n2:Int)):n3≤16777216:=Nat.le_trans (h2▸h1▸Nat.le_add_left n2 n1) (Nat.le_trans (Nat.le_of_lt h0) (by decide))
theorem q259 (h0:¬n0<2):2≤n0:=Nat.le_of_not_lt h0
theorem q260 (h0:n0=9)(h1:n1=n0):4<(n1:Int):=(h1.trans h0)▸(by decide)
theorem q262 (h0:¬z0<z1):z1≤z0:=Int.not_lt.mp h0
theorem q263 (h0:n0<64)(h1:n1=n0):(n1:Int)/2<2^63:=Ar.zhf h0 h1
theorem q264 (h0:n0=2*n1+1)(h1:n2=n3)(h2:(n0:Int)<(n3:Int))(h3:¬(n0:Int)+1<(n3:Int)):(n0:Int)<(n2:Int):=h1▸h2
theorem q267 (h0:n0=n1)(h1:n2+n3=n1)(h2:0<(n1:Int)-(n3:Int))(h3:¬(n1:Int)-1<1+(n3:Int)):1+(n3:Int)<(n0:Int):=h0▸Int.lt_of_le_of_lt (Int.not_lt.mp h3) (Int.sub_lt_self _ (by decide))
theorem q269 (h0:n0=2*n1+1):0≤(n0:Int)+1:=Int.add_nonneg (Int.natCast_nonneg n0) (by decide)
theorem q271 (h0:n0≤n1)(h1:¬n0≥n1):(n0+n1)/2<n1:=Nat.div_lt_of_lt_mul (Nat.two_mul n1▸Nat.add_lt_add_right (Nat.lt_of_not_le h1) n1)
theorem q273 (h0:n0≤n1)(h1:n1-n0≤0)(h2:n0≤n2):n1≤n2:=Nat.le_trans (Nat.le_of_sub_eq_zero (Nat.eq_zero_of_le_zero h1)) h2
theorem q274 (h0:0<z0):0<Int.natAbs z0:=Int.natAbs_pos.mpr (Int.ne_of_gt h0)
theorem q275 (h0:¬z0≥0):-z0=(((Int.toNat (-z0)):Nat):Int):=(Int.toNat_of_nonneg (Int.neg_nonneg_of_nonpos (Int.le_of_lt (Int.not_le.mp h0)))).symm
theorem q276 (h0:¬z0=0):0<Int.natAbs z0:=Int.natAbs_pos.mpr h0
theorem q282 (h0:n0<n1):n1-n0+n0=n1:=Nat.sub_add_cancel (Nat.le_of_lt h0)
theorem q283 (h0:0<n0)(h1:n1=n0):(n1:Int)/2<(n1:Int):=Int.ofNat_lt.mpr (Nat.div_lt_self (h1▸h0) Nat.one_lt_two)
theorem q284 (h0:n0=n1)(h1:n2+1≤n1/2):n2<n0:=Nat.lt_of_lt_of_le h1 (h0▸Nat.div_le_self _ _)
theorem q285 (h0:z0≤z1)(h1:z1≤z2):z0≤z2:=Int.le_trans h0 h1
theorem q287 (h0:n0+1+1+1+1+1+1+1<n1):n1≠n0+1+1+1+1+1:=Nat.ne_of_gt (Nat.lt_of_succ_lt (Nat.lt_of_succ_lt h0))
theorem q289 (h0:n0+1+1+1+1+1+1+1<n1):n1≠n0+1+1+1+1:=Nat.ne_of_gt (Nat.lt_of_succ_lt (Nat.lt_of_succ_lt (Nat.lt_of_succ_lt h0)))
theorem q292 (h0:n0<n1)(h1:n1≤n2)(h2:n3<min n0 n2):n3<n0:=Nat.lt_of_lt_of_le h2 (Nat.min_le_left _ _)
theorem q302 (h0:n0 % 2=0):(1+(((0:Nat):Nat):Int))*((n0:Int)+1)-(((n0/2):Nat):Int)*2=1:=Ar.x1 h0
theorem q305 (h0:n0<3):(((3*(n0+1)):Nat):Int)<(((10:Nat):Nat):Int):=Int.ofNat_lt.mpr (Nat.lt_of_le_of_lt (Nat.mul_le_mul_left 3 h0) (by decide))
theorem q307:z0≤z1∨z1≤z0:=Int.le_total z0 z1
theorem q311 (h0:¬n0≥n1):n0≤(n0+n1)/2:=(Nat.le_div_iff_mul_le Nat.two_pos).mpr (Nat.mul_two n0▸Nat.add_le_add_left (Nat.le_of_lt (Nat.lt_of_not_le h0)) n0)
theorem q313:n0-n1≤n0:=Nat.sub_le n0 n1
theorem q320 (h0:0<z0)(h1:0≤z1):0≤z0+z1:=Int.add_nonneg (Int.le_of_lt h0) h1
theorem q321 (h0:n0<n1+1)(h1:n0≥n1):n0=n1:=Nat.le_antisymm (Nat.le_of_lt_succ h0) h1
theorem q322 (h0:n0<n1):n1=n0+(n1-n0):=(Nat.add_sub_cancel' (Nat.le_of_lt h0)).symm
theorem q335 (h0:n0=n1)(h1:n2<n0)(h2:(n2:Int)+1<(n0:Int)):n2+1<n0:=Int.ofNat_lt.mp h2
theorem q353 (h0:z0≤z1)(h1:z1=z2-z3)(h2:z2-z3≤z4):z0≤z4:=Int.le_trans h0 (h1▸h2)
theorem q359 (h0:n0≤n1)(h1:n2<n1+1)(h2:¬n2=n0)(h3:¬n0<n2):n2<n1:=Nat.lt_of_lt_of_le (Nat.lt_of_le_of_ne (Nat.le_of_not_lt h3) h2) h0
theorem q365 (h0:n0+n1=5)(h1:n1<5):0<5-(n1:Int):=Int.sub_pos_of_lt (Int.ofNat_lt.mpr h1)
theorem q368 (h0:n0+n1=n2)(h1:n3<n1+1)(h2:¬n3<n1):n3=n1:=Nat.le_antisymm (Nat.le_of_lt_succ h1) (Nat.le_of_not_lt h2)
theorem q371 (h0:z0+z1=0)(h1:¬z0<0):0≤z0:=Int.not_lt.mp h1
theorem q372 (h0:z0+(z1+z2)<2^53):z0+z1+z2<2^53:=(Int.add_assoc _ _ _).symm▸h0
theorem q381 (h0:z0+(z1+z2)<2^53)(h1:0≤z2):z0+z1<2^53:=Int.lt_of_le_of_lt (Int.add_le_add_left (Int.le_add_of_nonneg_right h1) z0) h0
theorem q386 (h0:¬0<n0):n0=0:=Nat.eq_zero_of_not_pos h0
theorem q440:n0/2≤n0:=Nat.div_le_self n0 2
theorem q450 (h0:¬z0<z1)(h1:z0≤z2):z1≤z2:=Int.le_trans (Int.not_lt.mp h0) h1
theorem q462 (h0:¬n0+1<n1):n1≤n0+1:=Nat.le_of_not_lt h0
theorem q465 (h0:z0<z1)(h1:z1≤z2):z0≤z2:=Int.le_trans (Int.le_of_lt h0) h1
theorem q471 (h0:n0<n1)(h1:n0=n2):n2<n1:=h1▸h0
theorem q473 (h0:n0<n1)(h1:n1<n2+1):n0≤n2:=Nat.le_of_lt_succ (Nat.lt_trans h0 h1)
theorem q474 (h0:1≤n0):max n0 1=n0:=Nat.max_eq_left h0
theorem q481 (h0:0<z0)(h1:0<z1):0<z0+z1:=Int.add_pos h0 h1
theorem q491 (h0:¬z0<z1)(h1:¬z0=z1):z1<z0:=Int.lt_iff_le_and_ne.mpr ⟨Int.not_lt.mp h0,Ne.symm h1⟩
theorem q496 (h0:n0<n1+1)(h1:¬n0=n1):n0<n1:=Nat.lt_of_le_of_ne (Nat.le_of_lt_succ h0) h1
theorem q505:(z0-z1-1)/1+1=z0-z1:=by rw [Int.ediv_one];exact Int.sub_add_cancel _ _
theorem q546 (h0:z0<z1)(h1:z2≤z0):z2≤z1:=Int.le_trans h1 (Int.le_of_lt h0)
theorem q549 (h0:n0≤n1)(h1:n2<n0):n2≤n1:=Nat.le_of_lt (Nat.lt_of_lt_of_le h1 h0)
theorem q550 (h0:n0≤n1)(h1:¬n0<n1):n0=n1:=Nat.le_antisymm h0 (Nat.le_of_not_lt h1)
theorem q553 (h0:n0+1≤n1):n0<n1:=h0
theorem q554 (h0:n0≤n1)(h1:¬n1=n0):n0<n1:=Nat.lt_of_le_of_ne h0 (Ne.symm h1)
theorem q568 (h0:n0≤n1)(h1:n2<n0):n1≠n2:=Nat.ne_of_gt (Nat.lt_of_lt_of_le h1 h0)
theorem q572 (h0:z0≤z1)(h1:z2≤z0):z2≤z1:=Int.le_trans h1 h0
theorem q573:1≤n0+1:=Nat.succ_pos n0
theorem q575 (h0:n0<n1)(h1:n0=n2):¬n1=n2:=h1▸Nat.ne_of_gt h0
theorem q584 (h0:n0<n1+1):n0≤n1:=Nat.le_of_lt_succ h0
theorem q589 (h0:2≤n0):0<n0:=Nat.lt_of_lt_of_le (by decide) h0
theorem q591 (h0:n0+(n1+1)=n2):n0+1+n1=n2:=Ar.pd4 h0
theorem r1 (h0:¬z0 % 2=1)(h1:¬z0<0):(-1099511627776<if z0<1099511627776 then z0 else z0 % 1099511627776)∧(if z0<1099511627776 then z0 else z0 % 1099511627776)<1099511627776:=dite _ (fun c=>(if_pos c).symm▸⟨Int.lt_of_lt_of_le (by decide) (Int.not_lt.mp h1),c⟩) (fun c=>(if_neg c).symm▸Ar.modC)
theorem r3 (h0:n0<n1∧n2<n1∧n3<n1∧p4)(h1:n1<n5∧n0<n5∧n2<n5∧n3<n5∧p6)(h2:n5<n7)(h3:n7<n8∧n5<n8∧n1<n8∧n0<n8∧n2<n8∧n3<n8∧p9)(h4:n8<n10∧n7<n10∧n5<n10∧n1<n10∧n0<n10∧n2<n10∧n3<n10∧p11)(h5:n10<n12∧n8<n12∧n7<n12∧n5<n12∧n1<n12∧n0<n12∧n2<n12∧n3<n12∧p13)(h6:n12<n14):n0≤n14:=Nat.le_of_lt (Nat.lt_trans h5.2.2.2.2.2.1 h6)
theorem r5 (h0:2*n0+2<n1∧pu1):n1-(2*n0+2)<n1-n0:=Nat.sub_lt_sub_left (Nat.lt_trans Ar.dblt h0.1) Ar.dblt
theorem r8 (h0:n0<n1)(h1:(n2:Int)<(n0:Int)):Int.toNat (((n0:Int)-1)/2)<n1:=Nat.lt_of_le_of_lt (Int.toNat_le.mpr (Ar.zpar (Int.ofNat_lt.mpr (Nat.zero_lt_of_lt (Int.ofNat_lt.mp h1))))) h0
theorem r10 (h0:pu1):Int.natAbs (2*z0)=Int.natAbs z0*2:=(Int.natAbs_mul 2 z0).trans (Nat.mul_comm _ _)
theorem r12 (h0:n0<n1)(h1:0<n0)(h2:n1/2≤(n0-1)/2):z2≤z3:=absurd (Nat.le_trans (Nat.le_of_eq (Nat.add_div_right (n0-1) Nat.two_pos).symm) (Nat.div_le_div_right (c:=2) (Nat.le_trans (Nat.le_of_eq (congrArg Nat.succ (Nat.sub_add_cancel h1))) h0))) (Nat.not_le_of_lt (Nat.lt_succ_of_le h2))
theorem r13 (h0:n0=2*n1+1)(h1:n1+n2=n3)(h2:(n0:Int)<(n3:Int))(h3:¬(n0:Int)+1<(n3:Int)):n3-n0<n2:=Ar.su5 h1 (h0▸Ar.lt21) (Nat.lt_of_add_lt_add_left (n:=n1) (h1.symm▸Nat.lt_trans (h0▸Ar.lt21) (Int.ofNat_lt.mp h2)))
theorem r18 (h0:n0<9):Int.toNat (8-(n0:Int))=8-n0:=Int.toNat_sub 8 n0
theorem r19 (h0:n0+n1=3)(h1:n1<3):Int.toNat (11-(n1:Int))=11-n1:=Int.toNat_sub 11 n1
theorem r21 (h0:0<z0)(h1:0<z1)(h2:z0+z1<2^53):Int.natAbs (z1-(z0+z1))<2^53:=Nat.lt_of_le_of_lt (Nat.le_of_eq ((Int.natAbs_neg _).symm.trans (congrArg Int.natAbs ((Int.neg_sub _ _).trans (Int.add_sub_cancel z0 z1))))) (Ar.sm1 h0 (Int.lt_trans (Int.lt_add_of_pos_right z0 h1) h2))
theorem r22 (h0:¬z0 % 2=1):-1099511627776<z0 % 1099511627776∧z0 % 1099511627776<1099511627776:=Ar.modC
theorem r23 (h0:2≤n0)(h1:n1+n2=n0)(h2:0<(n0:Int)-(n2:Int))(h3:(n0:Int)-1<1+(n2:Int)):Int.toNat ((n0:Int)-1)=n2:=Nat.le_antisymm (Int.toNat_le.mpr (Int.le_of_lt_add_one (Int.add_comm 1 _▸h3))) (Nat.le_trans (Nat.le_sub_one_of_lt (Ar.zlt h2)) (Nat.le_of_eq Ar.tn1.symm))
theorem r29 (h0:n0+n1=n2)(h1:(((2*n0+1):Nat):Int)<(n2:Int))(h2:¬(((2*n0+1):Nat):Int)+1<(n2:Int))(h3:2*n0+2<n2):pu1:=absurd (Int.ofNat_lt.mpr h3) h2
theorem r32 (h0:z0≠z1)(h1:z2*1048576+z0=z3*1048576+z1)(h2:-524288≤z0∧z0<524288)(h3:-524288≤z1∧z1<524288):z0=z1:=absurd (Int.add_left_cancel ((congrArg (fun z=>z*1048576+z1) (Int.le_antisymm (Ar.lexL (by decide) (Ar.b20 h3 h2) (Int.le_of_eq h1)) (Ar.lexL (by decide) (Ar.b20 h2 h3) (Int.le_of_eq h1.symm)))).trans h1.symm)).symm h0
theorem r36 (h0:¬z0 % 2=1)(h1:z0<0)(h2:-z0<1099511627776):-1099511627776<z0∧z0<1099511627776:=⟨Int.neg_lt_of_neg_lt h2,Int.lt_trans h1 (by decide)⟩
theorem r38 (h0:-1074≤z0)(h1:-z0=(n1:Int)):Int.toNat (z0+1074)+n1=1074:=Int.ofNat.inj ((congrArg (fun z=>z+(n1:Int)) (Int.toNat_of_nonneg (Int.add_le_add_right h0 1074))).trans ((congrArg (fun z=>z0+1074+z) h1.symm).trans (Int.add_comm z0 1074▸Int.add_neg_cancel_right 1074 z0)))
theorem r41 (h0:n0 % 2=0):2-((1+(((0:Nat):Nat):Int))*((n0:Int)+1)-(((n0/2):Nat):Int)*2)<2^64:=Int.lt_of_le_of_lt (Int.le_of_eq (congrArg (fun z=>2-z) (Ar.x1 h0))) (by decide)
theorem r42 (h0:n0 % 2=0):-2^64<2-((1+(((0:Nat):Nat):Int))*((n0:Int)+1)-(((n0/2):Nat):Int)*2):=Int.lt_of_lt_of_le (by decide) (Int.le_of_eq (congrArg (fun z=>2-z) (Ar.x1 h0)).symm)
theorem r43 (h0:n0 % 2=0):-2^64<(1+(((0:Nat):Nat):Int))*((n0:Int)+1)-(((n0/2):Nat):Int)*2:=Int.lt_of_lt_of_le (by decide) (Int.le_of_eq (Ar.x1 h0).symm)
theorem r44 (h0:n0 % 2=0):(1+(((0:Nat):Nat):Int))*((n0:Int)+1)-(((n0/2):Nat):Int)*2<2^64:=Int.lt_of_le_of_lt (Int.le_of_eq (Ar.x1 h0)) (by decide)
theorem r48 (h0:n0<64)(h1:n1+n2=n0)(h2:¬(n0:Int)-1<1+(n2:Int)):1+(n2:Int)-1<2^63:=Int.lt_of_le_of_lt (Int.le_of_eq Ar.oc) (Ar.zupL (Nat.lt_of_le_of_lt (Nat.le_trans (Nat.le_add_left n2 n1) (Nat.le_of_eq h1)) h0) rfl)
theorem r53 (h0:z0*2=z1):(z0=z2↔z1=2*z2):=⟨fun e=>h0▸e▸Int.mul_comm z0 2,fun e=>Int.eq_of_mul_eq_mul_right (by decide) ((h0.trans e).trans (Int.mul_comm 2 z2))⟩
theorem r54 (h0:n0<n1∧n2<n1∧n3<n1∧p4)(h1:n1<n5∧n0<n5∧n2<n5∧n3<n5∧p6)(h2:n5<n7):n0≤n7:=Nat.le_of_lt (Nat.lt_trans h1.2.1 h2)
theorem r55 (h0:n0=2*n1+1)(h1:n2=n3)(h2:(n0:Int)<(n3:Int))(h3:(n0:Int)+1<(n3:Int)):n0+1<n2:=h1▸Int.ofNat_lt.mp h3
theorem r56 (h0:z0<0):-(((Int.natAbs z0):Nat):Int)=z0:=(Int.ofNat_natAbs_of_nonpos (Int.le_of_lt h0))▸Int.neg_neg z0
theorem r57 (h0:2≤n0)(h1:n0 % 2=0):-2^64<(((n0/2):Nat):Int):=Int.lt_of_lt_of_le (by decide) (Int.natCast_nonneg _)
theorem r59 (h0:n0<64)(h1:n1+n2=n0)(h2:0<(n0:Int)-(n2:Int)):1+(n2:Int)<2^64:=Int.lt_of_le_of_lt (Int.le_of_eq (Int.add_comm 1 _)) (Ar.zup (Nat.succ_le_of_lt (Nat.lt_trans (Ar.zlt h2) h0)) rfl)
theorem r60 (h0:n0+1≤n1∧n1≤n0+1+n2∧p3∧(n1<n0+1+n2→z4<z5))(h1:n1<n0+(n2+1)):n1<n0+1+n2:=Nat.lt_of_lt_of_le h1 (Nat.le_of_eq (Nat.succ_add_eq_add_succ n0 n2).symm)
theorem r61 (h0:n0+1+1+1+1+1+1+1<n1):n1≠n0+1+1+1:=Nat.ne_of_gt (Nat.lt_of_le_of_lt (Nat.le_add_right (n0+1+1+1) 4) h0)
theorem r64 (h0:n0+1+1+1+1+1+1+1<n1):n1≠n0+1+1:=Nat.ne_of_gt (Nat.lt_of_le_of_lt (Nat.le_add_right (n0+1+1) 5) h0)
theorem r67 (h0:2≤n0)(h1:n1+n2=n0)(h2:0<(n0:Int)-(n2:Int))(h3:(n0:Int)-1<1+(n2:Int)):0≤(n0:Int)-1-1:=Int.sub_nonneg_of_le (Int.le_sub_one_of_lt (Int.ofNat_lt.mpr h0))
theorem r68 (h0:0<n0)(h1:n1=n0)(h2:(n1:Int)% 2≠1):0≤(n1:Int)/2-1:=Int.le_sub_one_of_lt (Int.ofNat_lt.mpr (Nat.div_pos (Nat.lt_of_le_of_ne (h1▸h0) fun e=>h2 (e▸rfl)) (by decide)))
theorem r69 (h0:z0=z1+z2):z3+z0=z1+(z3+z2):=(congrArg (fun z=>z3+z) h0).trans (Int.add_left_comm z3 z1 z2)
theorem r70 (h0:n0+1≤n1∧n1≤n0+1+n2∧p3∧(n1<n0+1+n2→z4<z5)):n1≤n0+(n2+1):=Nat.le_trans h0.2.1 (Nat.le_of_eq (Nat.succ_add_eq_add_succ n0 n2))
theorem r74 (h0:2≤n0)(h1:n0 % 2=0):¬(n0:Int)-1<(((n0/2):Nat):Int):=Int.not_lt.mpr (Int.le_sub_one_of_lt (Int.ofNat_lt.mpr (Nat.div_lt_self (Nat.lt_of_lt_of_le (by decide) h0) (by decide))))
theorem r75 (h0:2≤n0)(h1:n0 % 2=0):0≤(((n0/2):Nat):Int)-1:=Int.le_sub_one_of_lt (Int.ofNat_lt.mpr (Nat.div_pos h0 (by decide)))
theorem r76 (h0:n0=10)(h1:n1+n2=3)(h2:n2<3):3*((n2:Int)+1)<(n0:Int):=Int.ofNat_lt.mpr (h0▸Nat.lt_of_le_of_lt (Nat.mul_le_mul_left 3 (Nat.succ_le_of_lt h2)) (by decide))
theorem r77 (h0:2≤n0)(h1:n0 % 2=0)(h2:n1=n0):Int.toNat 1<n1:=h2▸h0
theorem r78 (h0:n0+1+1+1+1+1+1+1<n1):n1≠n0+1:=Nat.ne_of_gt (Nat.lt_of_le_of_lt (Nat.le_add_right (n0+1) 6) h0)
theorem r83 (h0:n0≤1000)(h1:n1+n2=n0)(h2:0<n2):(n1:Int)<2^63:=Ar.zup (Nat.le_trans (Nat.le_trans (Nat.le_add_right n1 n2) (Nat.le_of_eq h1)) h0) rfl
theorem r84 (h0:2≤n0)(h1:n0 % 2=0):¬(((n0/2):Nat):Int)<1:=Int.not_lt.mpr (Int.ofNat_le.mpr (Nat.div_pos h0 (by decide)))
theorem r85 (h0:z0=z1+z2):z3+z0=z3+z1+z2:=(congrArg (fun z=>z3+z) h0).trans (Int.add_assoc z3 z1 z2).symm
theorem r87 (h0:2≤n0)(h1:n0 % 2=0)(h2:n1=n0):¬(n1:Int)<2:=Int.not_lt.mpr (Int.ofNat_le.mpr (h2▸h0))
theorem r89 (h0:n0≤9)(h1:n1+n2=n0)(h2:0<(n0:Int)-(n2:Int)):(n2:Int)<2^63:=Ar.zup (Nat.le_trans (Nat.le_trans (Nat.le_add_left n2 n1) (Nat.le_of_eq h1)) h0) rfl
theorem r90:0<2*(1-1)+2*(n0:Int)+(n1:Int)+1:=Int.ofNat_lt.mpr (Nat.succ_pos (2*(1-1)+2*n0+n1))
theorem r93 (h0:n0=2*n1+1)(h1:¬(n0:Int)<(n2:Int)):¬2*n1+1<n2:=fun q=>h1 (Int.ofNat_lt.mpr (h0▸q))
theorem r95:2+(2*(n0:Int)+(n1:Int))=2*(((n0+1):Nat):Int)+(((n1+0):Nat):Int):=congrArg Int.ofNat ((Nat.add_assoc 2 (2*n0) n1).symm.trans (congrArg (fun t=>t+n1) (Nat.add_comm 2 (2*n0))))
theorem r96 (h0:n0=n1)(h1:n2+n3=n1)(h2:0<(n1:Int)-(n3:Int)):1+(n3:Int)-1<(n0:Int):=Int.lt_of_le_of_lt (Int.le_of_eq Ar.oc) (h0▸Int.ofNat_lt.mpr (Ar.zlt h2))
theorem r97 (h0:z0≤z1)(h1:z2≤z1*(n3:Int)):z0+z2≤z1*(n3:Int)+z1:=Int.add_comm z1 (z1*(n3:Int))▸Int.add_le_add h0 h1
theorem r98 (h0:n0=2*n1):(n0:Int)/2=(n1:Int):=h0▸congrArg Int.ofNat (Nat.mul_div_cancel_left n1 Nat.two_pos)
theorem r99 (h0:n0≤9)(h1:n1+n2=n0)(h2:n3=n2)(h3:0<(n0:Int)-(n2:Int)):n3≤1000:=h2▸Nat.le_trans (Nat.le_trans (Nat.le_add_left n2 n1) (Nat.le_of_eq h1)) (Nat.le_trans h0 (by decide))
theorem r100:1+(2*(n0:Int)+(n1:Int))=2*(((n0+0):Nat):Int)+(((n1+1):Nat):Int):=congrArg Int.ofNat (Nat.add_comm 1 (2*n0+n1))
theorem r103 (h0:n0+n1=n2)(h1:0<(n2:Int)-(n1:Int))(h2:(n2:Int)-1<1+(n1:Int)):1+(n1:Int)=(n2:Int):=Int.le_antisymm (Int.add_comm 1 (n1:Int)▸Int.ofNat_lt.mpr (Ar.zlt h1)) (Int.le_of_sub_one_lt h2)
theorem r104 (h0:n0≤9)(h1:n1=n0)(h2:(n2:Int)+1<(n1:Int)):(n2:Int)+1<2^63:=Int.lt_trans h2 (Ar.zup (b:=9) (h1▸h0) rfl)
theorem r105 (h0:n0<5):-524288≤-(n0:Int)∧-(n0:Int)<524288:=⟨Int.neg_le_neg (Int.le_of_lt (Ar.zupL h0 rfl)),Int.lt_of_le_of_lt (Int.neg_nonpos_of_nonneg (Int.natCast_nonneg n0)) (by decide)⟩
theorem r106 (h0:n0+n1=3)(h1:n1<3):3*((n1:Int)+1)<9223372036854775808:=Int.lt_of_le_of_lt (Int.ofNat_le.mpr (Nat.mul_le_mul_left 3 (Nat.succ_le_of_lt h1))) (by decide)
theorem r111 (h0:n0<n1∧n2+1<n1∧n3<n1∧n4<n1∧n5<n1):n2+1≠n1:=Nat.ne_of_lt h0.2.1
theorem r112 (h0:pu1∧n0+1≤n1∧n1≤n0+1+n2∧n3=0∧p4):n1≤n0+(n2+1):=Nat.le_trans h0.2.2.1 (Nat.le_of_eq (Nat.succ_add_eq_add_succ n0 n2))
theorem r114 (h0:n0<n1∧n2+1<n1∧n3<n1∧n4<n1∧n5<n1):n4≠n1:=Nat.ne_of_lt h0.2.2.2.1
theorem r115 (h0:z0<z1):¬z1=z0:=(Int.ne_of_lt h0).symm
theorem r116 (h0:n0<n1∧n2+1<n1∧n3<n1∧n4<n1∧n5<n1):n3≠n1:=Nat.ne_of_lt h0.2.2.1
theorem r118 (h0:n0<n1∧n2+1<n1∧n3<n1∧n4<n1∧n5<n1):n0≠n1:=Nat.ne_of_lt h0.1
theorem r119 (h0:n0<64)(h1:n1=n0):(n1:Int)<2^63:=Ar.zupL (h1▸h0) rfl
theorem r120 (h0:n0<64):(n0:Int)+1-((1+(n1:Int))*((n0:Int)+1)-(1+(n1:Int))*((n0:Int)+1))<2^64:=Int.lt_of_le_of_lt (Int.le_of_eq (congrArg (fun z=>(n0:Int)+1-z) (Int.sub_self _))) (Int.lt_of_le_of_lt (Int.sub_le_self _ (by decide)) (Ar.zup (Nat.succ_le_of_lt h0) rfl))
theorem r121:0+(2*(n0:Int)+(n1:Int))=2*(((n0+0):Nat):Int)+(((n1+0):Nat):Int):=congrArg Int.ofNat (Nat.zero_add (2*n0+n1))
theorem r126 (h0:n0<n1∧n2+1<n1∧n3<n1∧n4<n1∧n5<n1):n5≠n1:=Nat.ne_of_lt h0.2.2.2.2
theorem r127 (h0:z0+(z1+z2)<2^53)(h1:0≤z2):z1+z0<2^53:=Int.lt_of_le_of_lt (Int.add_comm z1 z0▸Int.add_le_add_left (Int.le_add_of_nonneg_right h1) z0) h0
theorem r129 (h0:n0+n1=9)(h1:n2≤n1)(h2:0<9-(n1:Int)):n2≤1000:=Nat.le_trans h1 (Nat.le_trans (Nat.le_trans (Nat.le_add_left n1 n0) (Nat.le_of_eq h0)) (by decide))
theorem r132 (h0:n0≤1000):-2^63≤(n0:Int)∧(n0:Int)<2^63:=⟨Int.le_trans (by decide) (Int.natCast_nonneg n0),Ar.zup h0 rfl⟩
theorem r134 (h0:n0≤9)(h1:n1<n0):(n1:Int)<2^63:=Ar.zup (Nat.le_of_lt (Nat.lt_of_lt_of_le h1 h0)) rfl
theorem r136 (h0:n0≤5000)(h1:n1=9900):n0+3+64<n1:=h1▸Nat.lt_of_le_of_lt (Nat.add_le_add_right h0 67) (by decide)
theorem r137 (h0:n0<64):(n0:Int)-1-1<2^63:=Int.lt_of_le_of_lt (Int.le_trans (Int.sub_le_self _ (by decide)) (Int.sub_le_self _ (by decide))) (Ar.zupL h0 rfl)
theorem r139 (h0:n0<64):(n0:Int)-1<2^64:=Int.lt_of_le_of_lt (Int.sub_le_self _ (by decide)) (Ar.zupL h0 rfl)
theorem r140 (h0:n0<n1∧n2+1<n1∧n3<n1):n3<n1:=h0.2.2
theorem r148 (h0:n0<64):(n0:Int)-1<2^63:=Int.lt_of_le_of_lt (Int.sub_le_self _ (by decide)) (Ar.zupL h0 rfl)
theorem r149 (h0:n0<64)(h1:n1=n0):(n1:Int)≤(((1048576:Nat):Nat):Int):=Int.ofNat_le.mpr (Nat.le_trans (Nat.le_of_lt (h1▸h0)) (by decide))
theorem r151 (h0:n0=2*n1)(h1:(n0:Int)/2=(n1:Int)):n0 % 2=0:=Nat.mod_eq_zero_of_dvd (h0▸Nat.dvd_mul_right 2 n1)
theorem r152 (h0:n0+n1=3)(h1:n1<3):0≤11-(n1:Int):=Int.sub_nonneg_of_le (Ar.zupL (Nat.lt_of_lt_of_le h1 (by decide:3≤11)) rfl|>Int.le_of_lt)
theorem r153 (h0:n0+n1=n2)(h1:¬n1<n2):n1≤n2:=h0▸Nat.le_add_left n1 n0
theorem r156 (h0:n0≤9)(h1:n1=n0):n1<2^62:=Nat.lt_of_le_of_lt (h1▸h0) (by decide)
theorem r158 (h0:n0≤1000):(n0:Int)/2≤1000:=Int.ofNat_le.mpr (Nat.le_trans (Nat.div_le_self n0 2) h0)
theorem r161 (h0:n0+n1=9):8-(n1:Int)<9000:=Int.lt_of_le_of_lt (Int.sub_le_self _ (Int.natCast_nonneg n1)) (by decide)
theorem r162 (h0:n0+n1=3):11-(n1:Int)<9000:=Int.lt_of_le_of_lt (Int.sub_le_self _ (Int.natCast_nonneg n1)) (by decide)
theorem r165 (h0:n0+n1=3):-9223372036854775808<3*((n1:Int)+1):=Int.lt_of_lt_of_le (by decide) (Int.natCast_nonneg (3*(n1+1)))
theorem r170:(((Int.toNat (0- -(n0:Int))):Nat):Int)=(n0:Int):=congrArg (fun z:Int=>((z.toNat:Nat):Int)) ((Int.zero_sub _).trans (Int.neg_neg (n0:Int)))
theorem r171 (h0:n0+n1=9)(h1:0<9-(n1:Int)):0≤8-(n1:Int):=Int.sub_nonneg_of_le (Int.le_sub_one_of_lt (Ar.zlt h1|>Int.ofNat_lt.mpr))
theorem r172 (h0:2≤n0):-2^64<(n0:Int)+1-((1+(n1:Int))*((n0:Int)+1)-(1+(n1:Int))*((n0:Int)+1)):=Int.lt_of_lt_of_le (by decide) (Int.le_trans (b:=(n0:Int)+1) (Int.natCast_nonneg (n0+1)) (Int.le_of_eq ((congrArg (fun z=>(n0:Int)+1-z) (Int.sub_self ((1+(n1:Int))*((n0:Int)+1)))).trans (Int.sub_zero _)).symm))
theorem r176 (h0:n0=10)(h1:n1+n2=3):-(n0:Int)≤3*((n2:Int)+1):=Int.le_trans (Int.neg_nonpos_of_nonneg (Int.natCast_nonneg n0)) (Int.natCast_nonneg (3*(n2+1)))
theorem r177 (h0:n0+n1=10)(h1:(n0:Int)≠0):1≤n0:=Nat.pos_of_ne_zero fun e=>h1 (congrArg Int.ofNat e)
theorem r182 (h0:n0+n1=10)(h1:n2=n0):n2≤1000:=h1▸Nat.le_trans (Nat.le_trans (Nat.le_add_right n0 n1) (Nat.le_of_eq h0)) (by decide)
theorem r188 (h0:n0<64):n0<2^62:=Nat.lt_of_lt_of_le h0 (by decide)
theorem r189 (h0:n0<n1):n0<n1+n2:=Nat.lt_of_lt_of_le h0 (Nat.le_add_right n1 n2)
theorem r192 (h0:n0+(9-n0)=9):n0<10:=Nat.lt_succ_of_le (Nat.le_trans (Nat.le_add_right n0 _) (Nat.le_of_eq h0))
theorem r193 (h0:n0<n1∧n2<n1∧n3<n1∧p4):n0≤n1:=Nat.le_of_lt h0.1
theorem r194 (h0:n0<n1∧n2<n1)(h1:n1<n3):n3≠n2:=Nat.ne_of_gt (Nat.lt_trans h0.2 h1)
theorem r195 (h0:n0+n1=n2):0≤1+(n1:Int):=Int.le_trans (Int.natCast_nonneg (1+n1)) (Int.le_of_eq rfl)
theorem r197 (h0:2≤n0):-2^64<(n0:Int)-1:=Int.lt_of_lt_of_le (by decide) (Int.sub_le_sub_right (Int.natCast_nonneg n0) 1)
theorem r198 (h0:n0+0=n1+(n2+1)):n1≤n0:=Nat.le_trans (Nat.le_add_right n1 _) (Nat.le_of_eq h0.symm)
theorem r199 (h0:1≤n0)(h1:n1=2*n0)(h2:n2=n1):Int.toNat 1<n2:=h2▸h1▸Nat.lt_of_lt_of_le (by decide) (Nat.mul_le_mul_left 2 h0)
theorem r201 (h0:9≤n0)(h1:n1=n0):9≤n2+n1:=Nat.le_trans (h1▸h0) (Nat.le_add_left n1 n2)
theorem r202 (h0:n0≤n1):n0≤2*n1+2:=Nat.le_trans h0 (Nat.le_of_lt Ar.dblt)
theorem r204 (h0:n0<n1)(h1:(n2-1)/2=n1):n0≤(n2-1)/2:=h1▸Nat.le_of_lt h0
theorem r206 (h0:z0=(n1:Int)):1+z0=(((n1+1):Nat):Int):=h0▸congrArg Int.ofNat (Nat.add_comm 1 n1)
theorem r207 (h0:9≤n0):min 9 (n1+n0)=9:=Nat.min_eq_left (Nat.le_trans h0 (Nat.le_add_left n0 n1))
theorem r208 (h0:1≤n0):-2^64<(n0:Int):=Int.lt_of_lt_of_le (by decide) (Int.natCast_nonneg _)
theorem r210 (h0:n0=n1):(n1:Int)-1-1<(n0:Int):=Int.lt_of_lt_of_le (Int.sub_lt_self _ (by decide)) (Int.le_trans (Int.sub_le_self _ (by decide)) (Int.ofNat_le.mpr (Nat.le_of_eq h0.symm)))
theorem r212 (h0:n0≤n1):n0≤2*n1+1:=Nat.le_trans h0 Ar.le21
theorem r213 (h0:z0≥z1):z2-z0≤z2-z1:=Int.sub_le_sub_left h0 z2
theorem r215 (h0:z0<z1):z0-1<z1:=Int.lt_trans (Int.sub_lt_self z0 (by decide)) h0
theorem r216 (h0:n0≤9):(n0:Int)<2^64:=Ar.zup h0 rfl
theorem r221 (h0:n0<n1):n0≤n1+2:=Nat.le_trans (Nat.le_of_lt h0) (Nat.le_add_right n1 2)
theorem r224 (h0:n0<n1):n0≠n1+1+1+1+1+1:=Nat.ne_of_lt (Nat.lt_of_lt_of_le h0 (Nat.le_add_right n1 5))
theorem r225 (h0:n0<64)(h1:n1=n0):n1≤16777216:=h1▸Nat.le_trans (Nat.le_of_lt h0) (by decide)
theorem r226 (h0:n0<64)(h1:n1=n0):n1≤1000:=h1▸Nat.le_trans (Nat.le_of_lt h0) (by decide)
theorem r227 (h0:n0=9):(n0:Int)<2^63:=h0▸by decide
theorem r230 (h0:-(n0:Int)≤z1):-(((n0+1):Nat):Int)≤z1-1:=Int.le_trans (Int.le_of_eq (Int.neg_add (a:=(n0:Int)) (b:=1))) (Int.sub_le_sub_right h0 1)
theorem r232 (h0:n0<n1):n0≠n1+1+1+1+1:=Nat.ne_of_lt (Nat.lt_of_lt_of_le h0 (Nat.le_add_right n1 4))
theorem r233 (h0:n0≤700):n0+1+1<1000:=Nat.lt_of_le_of_lt (Nat.add_le_add_right h0 2) (by decide)
theorem r234 (h0:n0≤600):n0+1+1<1000:=Nat.lt_of_le_of_lt (Nat.add_le_add_right h0 2) (by decide)
theorem r235 (h0:n0+n1=10)(h1:10≤n0):n0=10:=Nat.le_antisymm (h0▸Nat.le_add_right n0 n1) h1
theorem r237 (h0:n0≤700):n0+1<1000:=Nat.lt_of_le_of_lt (Nat.add_le_add_right h0 1) (by decide)
theorem r238 (h0:z0-z1=z2):z1+z2=z0:=(Int.add_comm _ _).trans (h0▸Int.sub_add_cancel z0 z1)
theorem r239 (h0:n0<n1):n0≠n1+1+1+1:=Nat.ne_of_lt (Nat.lt_of_lt_of_le h0 (Nat.le_add_right n1 3))
theorem r241 (h0:z0<z1-z2):z2+z0<z1:=Int.add_lt_of_lt_sub_left h0
theorem r242 (h0:z0+z1=z2):z2-z0=z1:=h0▸Int.add_comm z0 z1▸Int.add_sub_cancel z1 z0
theorem r243 (h0:z0+z1<z2):z1<z2-z0:=Int.lt_sub_left_of_add_lt h0
theorem r244 (h0:n0=9):n0<64:=h0▸by decide
theorem r246 (h0:0<n0)(h1:n1=n0):-2^63≤(n1:Int):=Int.le_trans (by decide) (Int.natCast_nonneg n1)
theorem r247 (h0:-(n0:Int)≤z1):-(((n0+1):Nat):Int)≤z1:=Int.le_trans (Int.neg_le_neg (Int.ofNat_le.mpr (Nat.le_succ n0))) h0
theorem r248 (h0:n0<n1):n0≠n1+1+1:=Nat.ne_of_lt (Nat.lt_of_lt_of_le h0 (Nat.le_add_right n1 2))
theorem r249 (h0:n0+n1=10)(h1:(n0:Int)=0):¬1≤n0:=fun q=>absurd (Int.ofNat.inj h1) (Nat.ne_of_gt q)
theorem r251 (h0:n0=n1):(n1:Int)-1<(n0:Int):=Int.lt_of_lt_of_le (Int.sub_lt_self _ (by decide)) (Int.ofNat_le.mpr (Nat.le_of_eq h0.symm))
theorem r252 (h0:2≤n0)(h1:n1=n0):Int.toNat 1<n1:=h1▸h0
theorem r258 (h0:n0+n1=9):8-(n1:Int)≤1000000:=Int.le_trans (Int.sub_le_self _ (Int.natCast_nonneg n1)) (by decide)
theorem r259 (h0:n0+n1=3):11-(n1:Int)≤1000000:=Int.le_trans (Int.sub_le_self _ (Int.natCast_nonneg n1)) (by decide)
theorem r264 (h0:n0+n1=n2):0≤1+(n1:Int)-1:=Int.le_trans (Int.natCast_nonneg n1) (Int.le_of_eq Ar.oc.symm)
theorem r265 (h0:n0+n1=n2):¬1+(n1:Int)<1:=Int.not_lt.mpr (Int.le_add_of_nonneg_right (Int.natCast_nonneg n1))
theorem r266:-2^64<2:=(by decide)
theorem r270 (h0:n0+n1=9)(h1:1≤n1):n0≤9:=Nat.le_trans (Nat.le_add_right n0 n1) (Nat.le_of_eq h0)
theorem r271 (h0:2≤n0)(h1:n1=n0):¬(n1:Int)<2:=Int.not_lt.mpr (Int.ofNat_le.mpr (h1▸h0))
theorem r272:-(n0:Int)<2^62:=Int.lt_of_le_of_lt (Int.neg_nonpos_of_nonneg (Int.natCast_nonneg n0)) (by decide)
theorem r273 (h0:n0=9)(h1:n1=n0):Int.toNat 3<n1:=(h1.trans h0).symm▸(by decide:Int.toNat 3<9)
theorem r274 (h0:n0=9)(h1:n1=n0):Int.toNat 2<n1:=(h1.trans h0).symm▸(by decide:Int.toNat 2<9)
theorem r277 (h0:n0≤n1):n0≤n1+1+1+1:=Nat.le_trans h0 (Nat.le_add_right n1 3)
theorem r280 (h0:n0+n1=9)(h1:1≤n0):n1≤9:=Nat.le_trans (Nat.le_add_left n1 n0) (Nat.le_of_eq h0)
theorem r282 (h0:n0<n1∧n2<n1):n1≠n2:=Nat.ne_of_gt h0.2
theorem r286 (h0:n0=9)(h1:n1=n0):Int.toNat 1<n1:=(h1.trans h0).symm▸(by decide:Int.toNat 1<9)
theorem r288:2<2^64:=(by decide)
theorem r295:((n0:Int)-0-1)/1+1=(n0:Int):=(congrArg (fun z=>z+1) (Int.ediv_one ((n0:Int)-0-1))).trans (Int.sub_add_cancel ((n0:Int)-0) 1)
theorem r296 (h0:n0=5):0<(n0:Int):=h0▸by decide
theorem r299 (h0:n0≤n1)(h1:n1<n0)(h2:pu1):z2=z3:=absurd h1 (Nat.not_lt_of_le h0)
theorem r304 (h0:n0<n1):n0≠n1+1:=Nat.ne_of_lt (Nat.lt_succ_of_lt h0)
theorem r305 (h0:¬0<(n0:Int)):0=(n0:Int):=(Int.le_antisymm (Int.not_lt.mp h0) (Int.natCast_nonneg n0)).symm
theorem r306 (h0:n0≤2):n0+1≤16777216:=Nat.le_trans (Nat.succ_le_succ h0) (by decide)
theorem r311 (h0:n0=9):-2^63≤(n0:Int):=Int.le_trans (by decide) (Int.natCast_nonneg n0)
theorem r312 (h0:z0<z1):¬z1<z0:=Int.not_lt.mpr (Int.le_of_lt h0)
theorem r313 (h0:n0+n1=n2):n0+1+n1=n2+1:=(Nat.succ_add n0 n1).trans (congrArg Nat.succ h0)
theorem r318 (h0:n0<n1):n1≠n0:=Nat.ne_of_gt h0
theorem r322 (h0:n0<n1):n0≠n1:=Nat.ne_of_lt h0
theorem r324:1≤(n0:Int)+1:=Int.ofNat_le.mpr (Nat.succ_pos n0)
theorem r326 (h0:2≤n0):0≤(n0:Int)-1:=Int.sub_nonneg_of_le (Int.ofNat_le.mpr (Nat.le_of_succ_le h0))
end Ar
end
inductive Ex2 {A0 A1:Type} (p:A0→A1→Prop):Prop
 |mk (a0:A0) (a1:A1) (h:p a0 a1):Ex2 p
inductive Ex3 {A0 A1 A2:Type} (p:A0→A1→A2→Prop):Prop
 |mk (a0:A0) (a1:A1) (a2:A2) (h:p a0 a1 a2):Ex3 p
inductive Ex4 {A0 A1 A2 A3:Type} (p:A0→A1→A2→A3→Prop):Prop
 |mk (a0:A0) (a1:A1) (a2:A2) (a3:A3) (h:p a0 a1 a2 a3):Ex4 p
inductive Ex5 {A0 A1 A2 A3 A4:Type} (p:A0→A1→A2→A3→A4→Prop):Prop
 |mk (a0:A0) (a1:A1) (a2:A2) (a3:A3) (a4:A4) (h:p a0 a1 a2 a3 a4):Ex5 p
inductive Ex6 {A0 A1 A2 A3 A4 A5:Type} (p:A0→A1→A2→A3→A4→A5→Prop):Prop
 |mk (a0:A0) (a1:A1) (a2:A2) (a3:A3) (a4:A4) (a5:A5) (h:p a0 a1 a2 a3 a4 a5):Ex6 p
inductive Ex7 {A0 A1 A2 A3 A4 A5 A6:Type} (p:A0→A1→A2→A3→A4→A5→A6→Prop):Prop
 |mk (a0:A0) (a1:A1) (a2:A2) (a3:A3) (a4:A4) (a5:A5) (a6:A6) (h:p a0 a1 a2 a3 a4 a5 a6):Ex7 p
inductive Ex8 {A0 A1 A2 A3 A4 A5 A6 A7:Type} (p:A0→A1→A2→A3→A4→A5→A6→A7→Prop):Prop
 |mk (a0:A0) (a1:A1) (a2:A2) (a3:A3) (a4:A4) (a5:A5) (a6:A6) (a7:A7) (h:p a0 a1 a2 a3 a4 a5 a6 a7):Ex8 p
inductive Pu {A0 A1 A2 A3 A4 A5 A6 A7 A8 A9:Type} (p:A0→A1→A2→A3→A4→A5→A6→A7→A8→A9→Prop):Prop
 |mk (a0:A0) (a1:A1) (a2:A2) (a3:A3) (a4:A4) (a5:A5) (a6:A6) (a7:A7) (a8:A8) (a9:A9) (h:p a0 a1 a2 a3 a4 a5 a6 a7 a8 a9):Pu p
inductive Ea (A0 A1 A2:Prop):Prop
 |mk (_:A0) (_:A1) (_:A2):Ea A0 A1 A2
inductive KR (A0 A1 A2 A3:Prop):Prop
 |mk (_:A0) (_:A1) (_:A2) (_:A3):KR A0 A1 A2 A3
inductive C6 (A0 A1 A2 A3 A4:Prop):Prop
 |mk (_:A0) (_:A1) (_:A2) (_:A3) (_:A4):C6 A0 A1 A2 A3 A4
inductive DJ (A0 A1 A2 A3 A4 A5:Prop):Prop
 |mk (_:A0) (_:A1) (_:A2) (_:A3) (_:A4) (_:A5):DJ A0 A1 A2 A3 A4 A5
inductive IY (A0 A1 A2 A3 A4 A5 A6:Prop):Prop
 |mk (_:A0) (_:A1) (_:A2) (_:A3) (_:A4) (_:A5) (_:A6):IY A0 A1 A2 A3 A4 A5 A6
inductive LR (A0 A1 A2 A3 A4 A5 A6 A7:Prop):Prop
 |mk (_:A0) (_:A1) (_:A2) (_:A3) (_:A4) (_:A5) (_:A6) (_:A7):LR A0 A1 A2 A3 A4 A5 A6 A7
inductive KQ (A0 A1 A2 A3 A4 A5 A6 A7 A8:Prop):Prop
 |mk (_:A0) (_:A1) (_:A2) (_:A3) (_:A4) (_:A5) (_:A6) (_:A7) (_:A8):KQ A0 A1 A2 A3 A4 A5 A6 A7 A8
inductive Kw (A0 A1 A2 A3 A4 A5 A6 A7 A8 A9:Prop):Prop
 |mk (_:A0) (_:A1) (_:A2) (_:A3) (_:A4) (_:A5) (_:A6) (_:A7) (_:A8) (_:A9):Kw A0 A1 A2 A3 A4 A5 A6 A7 A8 A9
inductive Kv (A0 A1 A2 A3 A4 A5 A6 A7 A8 A9 A10:Prop):Prop
 |mk (_:A0) (_:A1) (_:A2) (_:A3) (_:A4) (_:A5) (_:A6) (_:A7) (_:A8) (_:A9) (_:A10):Kv A0 A1 A2 A3 A4 A5 A6 A7 A8 A9 A10
inductive Ku (A0 A1 A2 A3 A4 A5 A6 A7 A8 A9 A10 A11 A12 A13 A14 A15 A16:Prop):Prop
 |mk (_:A0) (_:A1) (_:A2) (_:A3) (_:A4) (_:A5) (_:A6) (_:A7) (_:A8) (_:A9) (_:A10) (_:A11) (_:A12) (_:A13) (_:A14) (_:A15) (_:A16):Ku A0 A1 A2 A3 A4 A5 A6 A7 A8 A9 A10 A11 A12 A13 A14 A15 A16
theorem Bj {α:Type}{l l':List α}(is:List Nat)(m:Nat)(e:l=is.filterMap (fun i=>l'[i]?)++l'.drop m){x:α}(h:x∈l):x∈l':=by
 rw [e] at h
 rcases List.mem_append.mp h with h|h
 ·obtain⟨_,_,q⟩:=List.mem_filterMap.mp h
  exact List.mem_of_getElem? q
 ·exact List.mem_of_mem_drop h
theorem ltS {P:Nat→Prop}{n:Nat}(h:∀j,j<n→P j)(hn:P n):∀j,j<n+1→P j:=fun j hj=>(Nat.lt_or_eq_of_le (Nat.le_of_lt_succ hj)).elim (h j) fun e=>e▸hn
theorem lt0 {P:Nat→Prop}:∀j,j<0→P j:=fun _ h=>absurd h (Nat.not_lt_zero _)
theorem Cz {α:Type}{x:α}{l:List α}{P:Nat→α→Prop}(h0:P 0 x)(hs:∀j a,l[j]?=some a→P (j+1) a)(i:Nat)(a:α)(e:(x::l)[i]?=some a):P i a:=by
 cases i with
 |zero=>exact Option.some.inj e▸h0
 |succ j=>exact hs j a e
theorem IH {α:Type}{P:Nat→α→Prop}(i:Nat)(a:α)(e:([]:List α)[i]?=some a):P i a:=by
 cases e
theorem lsC {α:Type}{P:List α→Prop}{n:Nat}(h:∀a l,l.length=n→P (a::l))(l:List α)(e:l.length=n+1):P l:=by
 cases l with
 |nil=>cases e
 |cons a l=>exact h a l (Nat.succ.inj e)
theorem lsN {α:Type}{P:List α→Prop}(h:P [])(l:List α)(e:l.length=0):P l:=by
 cases l with
 |nil=>exact h
 |cons=>cases e
@[irreducible] noncomputable def pick {A:Type} (_:Nat) (ne:Nonempty A) (P:A→Prop):A:=@Classical.epsilon A ne (fun x=>¬P x)
@[irreducible] def At {A:Type} (P:A→Prop) (a:A):Prop:=P a
theorem Fj {A:Type}{k:Nat}{ne:Nonempty A}{P:A→Prop}(h:At P (pick k ne P)):∀a,P a:=by
 intro a;unfold At pick at h
 exact Classical.byContradiction fun hn=>(@Classical.epsilon_spec A (fun x=>¬P x) ⟨a,hn⟩) h
theorem BJ {A:Type}{k:Nat}{ne:Nonempty A}{P:A→Prop}(h:P (pick k ne P)):∀a,P a:=Fj (by unfold At;exact h)
theorem Kk {A:Type}{P:A→Prop}(y:A)(h:P y):At P y:=by unfold At;exact h
theorem Ka:Nonempty Shared:=⟨{}⟩
theorem PP:Nonempty World:=⟨aWorld 0⟩
theorem ne_p {A B:Type}(a:Nonempty A)(b:Nonempty B):Nonempty (A×B):=a.elim fun x=>b.elim fun y=>⟨(x,y)⟩
theorem HN {A:Type}{P:A→Prop}(ne:Nonempty A)(h:At P (pick 0 ne P)):∀a,P a:=Fj h
noncomputable def Zed {T:Prop}(_:T):Prop:=True
theorem zed {T:Prop}(p:T){q:Prop}(_:Zed p=q):T:=p
section
variable{A0 A1 A2 A3 A4 A5 A6 A7 A8 A9 A10 A11 A12 A13 A14 A15:Type}
@[irreducible] def At2 (P:A0→A1→Prop) (p:A0×A1):Prop:=P p.1 p.2
@[irreducible] def Bt2 (P:A0→A1→Prop) (a0:A0) (a1:A1):Prop:=P a0 a1
theorem eps2 {P:A0→A1→Prop}(ne:Nonempty (A0×A1))(h:let p:=pick 0 ne (At2 P);Bt2 P p.1 p.2):∀a0 a1,P a0 a1:=fun a0 a1=>by
 unfold Bt2 at h
 have q:=BJ (P:=At2 P) (k:=0) (ne:=ne) (by unfold At2;unfold At2 at h;exact h) (a0,a1)
 unfold At2 at q
 exact q
theorem bt2 {P:A0→A1→Prop}(a0:A0)(a1:A1)(h:P a0 a1):Bt2 P a0 a1:=by unfold Bt2;exact h
@[irreducible] def At3 (P:A0→A1→A2→Prop) (p:A0×A1×A2):Prop:=P p.1 p.2.1 p.2.2
@[irreducible] def Bt3 (P:A0→A1→A2→Prop) (a0:A0) (a1:A1) (a2:A2):Prop:=P a0 a1 a2
theorem eps3 {P:A0→A1→A2→Prop}(ne:Nonempty (A0×A1×A2))(h:let p:=pick 0 ne (At3 P);Bt3 P p.1 p.2.1 p.2.2):∀a0 a1 a2,P a0 a1 a2:=fun a0 a1 a2=>by
 unfold Bt3 at h
 have q:=BJ (P:=At3 P) (k:=0) (ne:=ne) (by unfold At3;unfold At3 at h;exact h) (a0,a1,a2)
 unfold At3 at q
 exact q
theorem bt3 {P:A0→A1→A2→Prop}(a0:A0)(a1:A1)(a2:A2)(h:P a0 a1 a2):Bt3 P a0 a1 a2:=by unfold Bt3;exact h
@[irreducible] def At4 (P:A0→A1→A2→A3→Prop) (p:A0×A1×A2×A3):Prop:=P p.1 p.2.1 p.2.2.1 p.2.2.2
@[irreducible] def Bt4 (P:A0→A1→A2→A3→Prop) (a0:A0) (a1:A1) (a2:A2) (a3:A3):Prop:=P a0 a1 a2 a3
theorem eps4 {P:A0→A1→A2→A3→Prop}(ne:Nonempty (A0×A1×A2×A3))(h:let p:=pick 0 ne (At4 P);Bt4 P p.1 p.2.1 p.2.2.1 p.2.2.2):∀a0 a1 a2 a3,P a0 a1 a2 a3:=fun a0 a1 a2 a3=>by
 unfold Bt4 at h
 have q:=BJ (P:=At4 P) (k:=0) (ne:=ne) (by unfold At4;unfold At4 at h;exact h) (a0,a1,a2,a3)
 unfold At4 at q
 exact q
theorem bt4 {P:A0→A1→A2→A3→Prop}(a0:A0)(a1:A1)(a2:A2)(a3:A3)(h:P a0 a1 a2 a3):Bt4 P a0 a1 a2 a3:=by unfold Bt4;exact h
@[irreducible] def At6 (P:A0→A1→A2→A3→A4→A5→Prop) (p:A0×A1×A2×A3×A4×A5):Prop:=P p.1 p.2.1 p.2.2.1 p.2.2.2.1 p.2.2.2.2.1 p.2.2.2.2.2
@[irreducible] def Bt6 (P:A0→A1→A2→A3→A4→A5→Prop) (a0:A0) (a1:A1) (a2:A2) (a3:A3) (a4:A4) (a5:A5):Prop:=P a0 a1 a2 a3 a4 a5
theorem eps6 {P:A0→A1→A2→A3→A4→A5→Prop}(ne:Nonempty (A0×A1×A2×A3×A4×A5))(h:let p:=pick 0 ne (At6 P);Bt6 P p.1 p.2.1 p.2.2.1 p.2.2.2.1 p.2.2.2.2.1 p.2.2.2.2.2):∀a0 a1 a2 a3 a4 a5,P a0 a1 a2 a3 a4 a5:=fun a0 a1 a2 a3 a4 a5=>by
 unfold Bt6 at h
 have q:=BJ (P:=At6 P) (k:=0) (ne:=ne) (by unfold At6;unfold At6 at h;exact h) (a0,a1,a2,a3,a4,a5)
 unfold At6 at q
 exact q
theorem bt6 {P:A0→A1→A2→A3→A4→A5→Prop}(a0:A0)(a1:A1)(a2:A2)(a3:A3)(a4:A4)(a5:A5)(h:P a0 a1 a2 a3 a4 a5):Bt6 P a0 a1 a2 a3 a4 a5:=by unfold Bt6;exact h
@[irreducible] def At8 (P:A0→A1→A2→A3→A4→A5→A6→A7→Prop) (p:A0×A1×A2×A3×A4×A5×A6×A7):Prop:=P p.1 p.2.1 p.2.2.1 p.2.2.2.1 p.2.2.2.2.1 p.2.2.2.2.2.1 p.2.2.2.2.2.2.1 p.2.2.2.2.2.2.2
@[irreducible] def Bt8 (P:A0→A1→A2→A3→A4→A5→A6→A7→Prop) (a0:A0) (a1:A1) (a2:A2) (a3:A3) (a4:A4) (a5:A5) (a6:A6) (a7:A7):Prop:=P a0 a1 a2 a3 a4 a5 a6 a7
theorem eps8 {P:A0→A1→A2→A3→A4→A5→A6→A7→Prop}(ne:Nonempty (A0×A1×A2×A3×A4×A5×A6×A7))(h:let p:=pick 0 ne (At8 P);Bt8 P p.1 p.2.1 p.2.2.1 p.2.2.2.1 p.2.2.2.2.1 p.2.2.2.2.2.1 p.2.2.2.2.2.2.1 p.2.2.2.2.2.2.2):∀a0 a1 a2 a3 a4 a5 a6 a7,P a0 a1 a2 a3 a4 a5 a6 a7:=fun a0 a1 a2 a3 a4 a5 a6 a7=>by
 unfold Bt8 at h
 have q:=BJ (P:=At8 P) (k:=0) (ne:=ne) (by unfold At8;unfold At8 at h;exact h) (a0,a1,a2,a3,a4,a5,a6,a7)
 unfold At8 at q
 exact q
theorem bt8 {P:A0→A1→A2→A3→A4→A5→A6→A7→Prop}(a0:A0)(a1:A1)(a2:A2)(a3:A3)(a4:A4)(a5:A5)(a6:A6)(a7:A7)(h:P a0 a1 a2 a3 a4 a5 a6 a7):Bt8 P a0 a1 a2 a3 a4 a5 a6 a7:=by unfold Bt8;exact h
@[irreducible] def Jj (P:A0→A1→A2→A3→A4→A5→A6→A7→A8→A9→A10→A11→Prop) (p:A0×A1×A2×A3×A4×A5×A6×A7×A8×A9×A10×A11):Prop:=P p.1 p.2.1 p.2.2.1 p.2.2.2.1 p.2.2.2.2.1 p.2.2.2.2.2.1 p.2.2.2.2.2.2.1 p.2.2.2.2.2.2.2.1 p.2.2.2.2.2.2.2.2.1 p.2.2.2.2.2.2.2.2.2.1 p.2.2.2.2.2.2.2.2.2.2.1 p.2.2.2.2.2.2.2.2.2.2.2
@[irreducible] def KP (P:A0→A1→A2→A3→A4→A5→A6→A7→A8→A9→A10→A11→Prop) (a0:A0) (a1:A1) (a2:A2) (a3:A3) (a4:A4) (a5:A5) (a6:A6) (a7:A7) (a8:A8) (a9:A9) (a10:A10) (a11:A11):Prop:=P a0 a1 a2 a3 a4 a5 a6 a7 a8 a9 a10 a11
theorem eps12 {P:A0→A1→A2→A3→A4→A5→A6→A7→A8→A9→A10→A11→Prop}(ne:Nonempty (A0×A1×A2×A3×A4×A5×A6×A7×A8×A9×A10×A11))(h:let p:=pick 0 ne (Jj P);KP P p.1 p.2.1 p.2.2.1 p.2.2.2.1 p.2.2.2.2.1 p.2.2.2.2.2.1 p.2.2.2.2.2.2.1 p.2.2.2.2.2.2.2.1 p.2.2.2.2.2.2.2.2.1 p.2.2.2.2.2.2.2.2.2.1 p.2.2.2.2.2.2.2.2.2.2.1 p.2.2.2.2.2.2.2.2.2.2.2):∀a0 a1 a2 a3 a4 a5 a6 a7 a8 a9 a10 a11,P a0 a1 a2 a3 a4 a5 a6 a7 a8 a9 a10 a11:=fun a0 a1 a2 a3 a4 a5 a6 a7 a8 a9 a10 a11=>by
 unfold KP at h
 have q:=BJ (P:=Jj P) (k:=0) (ne:=ne) (by unfold Jj;unfold Jj at h;exact h) (a0,a1,a2,a3,a4,a5,a6,a7,a8,a9,a10,a11)
 unfold Jj at q
 exact q
theorem bt12 {P:A0→A1→A2→A3→A4→A5→A6→A7→A8→A9→A10→A11→Prop}(a0:A0)(a1:A1)(a2:A2)(a3:A3)(a4:A4)(a5:A5)(a6:A6)(a7:A7)(a8:A8)(a9:A9)(a10:A10)(a11:A11)(h:P a0 a1 a2 a3 a4 a5 a6 a7 a8 a9 a10 a11):KP P a0 a1 a2 a3 a4 a5 a6 a7 a8 a9 a10 a11:=by unfold KP;exact h
@[irreducible] def Ji (P:A0→A1→A2→A3→A4→A5→A6→A7→A8→A9→A10→A11→A12→A13→A14→A15→Prop) (p:A0×A1×A2×A3×A4×A5×A6×A7×A8×A9×A10×A11×A12×A13×A14×A15):Prop:=P p.1 p.2.1 p.2.2.1 p.2.2.2.1 p.2.2.2.2.1 p.2.2.2.2.2.1 p.2.2.2.2.2.2.1 p.2.2.2.2.2.2.2.1 p.2.2.2.2.2.2.2.2.1 p.2.2.2.2.2.2.2.2.2.1 p.2.2.2.2.2.2.2.2.2.2.1 p.2.2.2.2.2.2.2.2.2.2.2.1 p.2.2.2.2.2.2.2.2.2.2.2.2.1 p.2.2.2.2.2.2.2.2.2.2.2.2.2.1 p.2.2.2.2.2.2.2.2.2.2.2.2.2.2.1 p.2.2.2.2.2.2.2.2.2.2.2.2.2.2.2
@[irreducible] def KO (P:A0→A1→A2→A3→A4→A5→A6→A7→A8→A9→A10→A11→A12→A13→A14→A15→Prop) (a0:A0) (a1:A1) (a2:A2) (a3:A3) (a4:A4) (a5:A5) (a6:A6) (a7:A7) (a8:A8) (a9:A9) (a10:A10) (a11:A11) (a12:A12) (a13:A13) (a14:A14) (a15:A15):Prop:=P a0 a1 a2 a3 a4 a5 a6 a7 a8 a9 a10 a11 a12 a13 a14 a15
theorem eps16 {P:A0→A1→A2→A3→A4→A5→A6→A7→A8→A9→A10→A11→A12→A13→A14→A15→Prop}(ne:Nonempty (A0×A1×A2×A3×A4×A5×A6×A7×A8×A9×A10×A11×A12×A13×A14×A15))(h:let p:=pick 0 ne (Ji P);KO P p.1 p.2.1 p.2.2.1 p.2.2.2.1 p.2.2.2.2.1 p.2.2.2.2.2.1 p.2.2.2.2.2.2.1 p.2.2.2.2.2.2.2.1 p.2.2.2.2.2.2.2.2.1 p.2.2.2.2.2.2.2.2.2.1 p.2.2.2.2.2.2.2.2.2.2.1 p.2.2.2.2.2.2.2.2.2.2.2.1 p.2.2.2.2.2.2.2.2.2.2.2.2.1 p.2.2.2.2.2.2.2.2.2.2.2.2.2.1 p.2.2.2.2.2.2.2.2.2.2.2.2.2.2.1 p.2.2.2.2.2.2.2.2.2.2.2.2.2.2.2):∀a0 a1 a2 a3 a4 a5 a6 a7 a8 a9 a10 a11 a12 a13 a14 a15,P a0 a1 a2 a3 a4 a5 a6 a7 a8 a9 a10 a11 a12 a13 a14 a15:=fun a0 a1 a2 a3 a4 a5 a6 a7 a8 a9 a10 a11 a12 a13 a14 a15=>by
 unfold KO at h
 have q:=BJ (P:=Ji P) (k:=0) (ne:=ne) (by unfold Ji;unfold Ji at h;exact h) (a0,a1,a2,a3,a4,a5,a6,a7,a8,a9,a10,a11,a12,a13,a14,a15)
 unfold Ji at q
 exact q
theorem bt16 {P:A0→A1→A2→A3→A4→A5→A6→A7→A8→A9→A10→A11→A12→A13→A14→A15→Prop}(a0:A0)(a1:A1)(a2:A2)(a3:A3)(a4:A4)(a5:A5)(a6:A6)(a7:A7)(a8:A8)(a9:A9)(a10:A10)(a11:A11)(a12:A12)(a13:A13)(a14:A14)(a15:A15)(h:P a0 a1 a2 a3 a4 a5 a6 a7 a8 a9 a10 a11 a12 a13 a14 a15):KO P a0 a1 a2 a3 a4 a5 a6 a7 a8 a9 a10 a11 a12 a13 a14 a15:=by unfold KO;exact h
end
local macro_rules | `(tactic| omega) => `(tactic| k_extra "om")
theorem kw_O_1:True:=by
 k_with "om"=>(first|(law_clear;k_extra "ar")|lia)
 k_with "arN"=>(with_reducible first|exact Nat.ne_of_lt (And.left (‹_›))|exact Nat.ne_of_gt (And.left (‹_›))|exact Ar.neTr (And.left (‹_›)) ‹_›|exact Ar.neTr' (And.left (‹_›)) ‹_›|exact Nat.ne_of_lt (And.left (And.right (‹_›)))|exact Nat.ne_of_gt (And.left (And.right (‹_›)))|exact Ar.neTr (And.left (And.right (‹_›))) ‹_›|exact Ar.neTr' (And.left (And.right (‹_›))) ‹_›|exact Nat.ne_of_lt (And.left (And.right (And.right (‹_›))))|exact Nat.ne_of_gt (And.left (And.right (And.right (‹_›))))|exact Ar.neTr (And.left (And.right (And.right (‹_›)))) ‹_›|exact Ar.neTr' (And.left (And.right (And.right (‹_›)))) ‹_›|exact Nat.ne_of_lt (And.left (And.right (And.right (And.right (‹_›)))))|exact Nat.ne_of_gt (And.left (And.right (And.right (And.right (‹_›)))))|exact Ar.neTr (And.left (And.right (And.right (And.right (‹_›))))) ‹_›|exact Ar.neTr' (And.left (And.right (And.right (And.right (‹_›))))) ‹_›|exact Nat.ne_of_lt (And.left (And.right (And.right (And.right (And.right (‹_›))))))|exact Nat.ne_of_gt (And.left (And.right (And.right (And.right (And.right (‹_›))))))|exact Ar.neTr (And.left (And.right (And.right (And.right (And.right (‹_›)))))) ‹_›|exact Ar.neTr' (And.left (And.right (And.right (And.right (And.right (‹_›)))))) ‹_›|exact Nat.ne_of_lt (And.left (And.right (And.right (And.right (And.right (And.right (‹_›)))))))|exact Nat.ne_of_gt (And.left (And.right (And.right (And.right (And.right (And.right (‹_›)))))))|exact Ar.neTr (And.left (And.right (And.right (And.right (And.right (And.right (‹_›))))))) ‹_›|exact Ar.neTr' (And.left (And.right (And.right (And.right (And.right (And.right (‹_›))))))) ‹_›|exact Nat.ne_of_lt (And.left (And.right (And.right (And.right (And.right (And.right (And.right (‹_›))))))))|exact Nat.ne_of_gt (And.left (And.right (And.right (And.right (And.right (And.right (And.right (‹_›))))))))|exact Ar.neTr (And.left (And.right (And.right (And.right (And.right (And.right (And.right (‹_›)))))))) ‹_›|exact Ar.neTr' (And.left (And.right (And.right (And.right (And.right (And.right (And.right (‹_›)))))))) ‹_›|exact Nat.ne_of_lt (And.left (And.right (And.right (And.right (And.right (And.right (And.right (And.right (‹_›)))))))))|exact Nat.ne_of_gt (And.left (And.right (And.right (And.right (And.right (And.right (And.right (And.right (‹_›)))))))))|exact Ar.neTr (And.left (And.right (And.right (And.right (And.right (And.right (And.right (And.right (‹_›))))))))) ‹_›|exact Ar.neTr' (And.left (And.right (And.right (And.right (And.right (And.right (And.right (And.right (‹_›))))))))) ‹_›|exact Nat.ne_of_lt (And.left (And.right (And.right (And.right (And.right (And.right (And.right (And.right (And.right (‹_›))))))))))|exact Nat.ne_of_gt (And.left (And.right (And.right (And.right (And.right (And.right (And.right (And.right (And.right (‹_›))))))))))|exact Ar.neTr (And.left (And.right (And.right (And.right (And.right (And.right (And.right (And.right (And.right (‹_›)))))))))) ‹_›|exact Ar.neTr' (And.left (And.right (And.right (And.right (And.right (And.right (And.right (And.right (And.right (‹_›)))))))))) ‹_›|exact Nat.ne_of_lt (And.right (And.right (‹_›)))|exact Nat.ne_of_gt (And.right (And.right (‹_›)))|exact Ar.neTr (And.right (And.right (‹_›))) ‹_›|exact Ar.neTr' (And.right (And.right (‹_›))) ‹_›|exact Nat.ne_of_lt (And.right (And.right (And.right (‹_›))))|exact Nat.ne_of_gt (And.right (And.right (And.right (‹_›))))|exact Ar.neTr (And.right (And.right (And.right (‹_›)))) ‹_›|exact Ar.neTr' (And.right (And.right (And.right (‹_›)))) ‹_›|exact Nat.ne_of_lt (And.right (And.right (And.right (And.right (‹_›)))))|exact Nat.ne_of_gt (And.right (And.right (And.right (And.right (‹_›)))))|exact Ar.neTr (And.right (And.right (And.right (And.right (‹_›))))) ‹_›|exact Ar.neTr' (And.right (And.right (And.right (And.right (‹_›))))) ‹_›)
 trivial
namespace hd
noncomputable abbrev S (x:String)(t:Nat):Value:=.str (Str.ofString x) t
noncomputable abbrev I (n:Int)(t:Nat):Value:=.int n t
noncomputable abbrev R (a:Nat):Value:=.ref a
noncomputable abbrev E (P:Params)(x:String)(t:Nat)(v:Value):DictEntry:=⟨PyData.keyHash P (Str.ofString x),S x t,v⟩
noncomputable abbrev pw:Program:=PySem.Challenge.rw_il0022_01.row.prog
noncomputable def sN (i:Nat):Stmt:=pw.main.body.getD i (.Pass default)
noncomputable def mN (i j:Nat):Stmt:=match sN i with
 |.ClassDef _ _ _ b .. =>b.getD j (.Pass default)
 |s=>s
noncomputable def fA:Stmt→Arguments
 |.FunctionDef _ a .. =>a
 |_=>default
noncomputable def fB:Stmt→List Stmt
 |.FunctionDef _ _ b .. =>b
 |_=> []
noncomputable def fS:Stmt→Scope
 |.FunctionDef _ _ _ _ _ _ s .. =>s
 |_=>default
theorem kwH:True:=by
 k_with "w"=>(refine'(?f:∀{a b:_},a=b→_) (?h:_=_);case' refine'_1=>skip)
 k_with "v"=>((case h=>(conv=>lhs;whnf));(case f=>exact fun{_ b} _=>b))
 trivial
local macro_rules | `(tactic| exists $e) => `(tactic| (k_extra "w"; exact $e; k_extra "v"))
noncomputable abbrev a0:Arguments:=by exists fA (sN 0)
noncomputable abbrev b0:List Stmt:=by exists fB (sN 0)
noncomputable abbrev s0:Scope:=by exists fS (sN 0)
noncomputable abbrev a5:Arguments:=by exists fA (sN 5)
noncomputable abbrev b5:List Stmt:=by exists fB (sN 5)
noncomputable abbrev s5:Scope:=by exists fS (sN 5)
noncomputable abbrev a6:Arguments:=by exists fA (sN 6)
noncomputable abbrev b6:List Stmt:=by exists fB (sN 6)
noncomputable abbrev s6:Scope:=by exists fS (sN 6)
noncomputable abbrev a7:Arguments:=by exists fA (sN 7)
noncomputable abbrev b7:List Stmt:=by exists fB (sN 7)
noncomputable abbrev s7:Scope:=by exists fS (sN 7)
noncomputable abbrev Pm:Arguments:=by exists fA (mN 8 1)
noncomputable abbrev Pf:List Stmt:=by exists fB (mN 8 1)
noncomputable abbrev La:Scope:=by exists fS (mN 8 1)
noncomputable abbrev Pl:Arguments:=by exists fA (mN 8 2)
noncomputable abbrev Pe:List Stmt:=by exists fB (mN 8 2)
noncomputable abbrev LZ:Scope:=by exists fS (mN 8 2)
noncomputable abbrev Pk:Arguments:=by exists fA (mN 8 3)
noncomputable abbrev Pd:List Stmt:=by exists fB (mN 8 3)
noncomputable abbrev LY:Scope:=by exists fS (mN 8 3)
noncomputable abbrev Pj:Arguments:=by exists fA (mN 8 4)
noncomputable abbrev Pc:List Stmt:=by exists fB (mN 8 4)
noncomputable abbrev LX:Scope:=by exists fS (mN 8 4)
noncomputable abbrev Pi:Arguments:=by exists fA (mN 9 1)
noncomputable abbrev Pb:List Stmt:=by exists fB (mN 9 1)
noncomputable abbrev LW:Scope:=by exists fS (mN 9 1)
noncomputable abbrev Ph:Arguments:=by exists fA (mN 9 2)
noncomputable abbrev Pa:List Stmt:=by exists fB (mN 9 2)
noncomputable abbrev LV:Scope:=by exists fS (mN 9 2)
noncomputable abbrev Pg:Arguments:=by exists fA (mN 9 3)
noncomputable abbrev PZ:List Stmt:=by exists fB (mN 9 3)
noncomputable abbrev LU:Scope:=by exists fS (mN 9 3)
noncomputable abbrev a10:Arguments:=by exists fA (sN 10)
noncomputable abbrev b10:List Stmt:=by exists fB (sN 10)
noncomputable abbrev s10:Scope:=by exists fS (sN 10)
noncomputable abbrev Ks:Arguments:=by exists fA (mN 11 1)
noncomputable abbrev Kj:List Stmt:=by exists fB (mN 11 1)
noncomputable abbrev KZ:Scope:=by exists fS (mN 11 1)
noncomputable abbrev Kr:Arguments:=by exists fA (mN 11 2)
noncomputable abbrev Ki:List Stmt:=by exists fB (mN 11 2)
noncomputable abbrev KY:Scope:=by exists fS (mN 11 2)
noncomputable abbrev Kq:Arguments:=by exists fA (mN 11 3)
noncomputable abbrev Kh:List Stmt:=by exists fB (mN 11 3)
noncomputable abbrev KX:Scope:=by exists fS (mN 11 3)
noncomputable abbrev Kp:Arguments:=by exists fA (mN 11 4)
noncomputable abbrev Kg:List Stmt:=by exists fB (mN 11 4)
noncomputable abbrev KW:Scope:=by exists fS (mN 11 4)
noncomputable abbrev Ko:Arguments:=by exists fA (mN 13 1)
noncomputable abbrev Kf:List Stmt:=by exists fB (mN 13 1)
noncomputable abbrev KV:Scope:=by exists fS (mN 13 1)
noncomputable abbrev Kn:Arguments:=by exists fA (mN 13 2)
noncomputable abbrev Ke:List Stmt:=by exists fB (mN 13 2)
noncomputable abbrev KU:Scope:=by exists fS (mN 13 2)
noncomputable abbrev Km:Arguments:=by exists fA (mN 13 3)
noncomputable abbrev Kd:List Stmt:=by exists fB (mN 13 3)
noncomputable abbrev KT:Scope:=by exists fS (mN 13 3)
noncomputable abbrev Kl:Arguments:=by exists fA (mN 13 4)
noncomputable abbrev Kc:List Stmt:=by exists fB (mN 13 4)
noncomputable abbrev KS:Scope:=by exists fS (mN 13 4)
noncomputable abbrev a15:Arguments:=by exists fA (sN 15)
noncomputable abbrev b15:List Stmt:=by exists fB (sN 15)
noncomputable abbrev s15:Scope:=by exists fS (sN 15)
noncomputable abbrev a16:Arguments:=by exists fA (sN 16)
noncomputable abbrev b16:List Stmt:=by exists fB (sN 16)
noncomputable abbrev s16:Scope:=by exists fS (sN 16)
noncomputable abbrev a17:Arguments:=by exists fA (sN 17)
noncomputable abbrev b17:List Stmt:=by exists fB (sN 17)
noncomputable abbrev s17:Scope:=by exists fS (sN 17)
noncomputable abbrev a18:Arguments:=by exists fA (sN 18)
noncomputable abbrev b18:List Stmt:=by exists fB (sN 18)
noncomputable abbrev s18:Scope:=by exists fS (sN 18)
noncomputable abbrev a20:Arguments:=by exists fA (sN 20)
noncomputable abbrev b20:List Stmt:=by exists fB (sN 20)
noncomputable abbrev s20:Scope:=by exists fS (sN 20)
noncomputable abbrev a21:Arguments:=by exists fA (sN 21)
noncomputable abbrev b21:List Stmt:=by exists fB (sN 21)
noncomputable abbrev s21:Scope:=by exists fS (sN 21)
noncomputable abbrev a22:Arguments:=by exists fA (sN 22)
noncomputable abbrev b22:List Stmt:=by exists fB (sN 22)
noncomputable abbrev s22:Scope:=by exists fS (sN 22)
noncomputable abbrev a23:Arguments:=by exists fA (sN 23)
noncomputable abbrev b23:List Stmt:=by exists fB (sN 23)
noncomputable abbrev s23:Scope:=by exists fS (sN 23)
noncomputable abbrev a24:Arguments:=by exists fA (sN 24)
noncomputable abbrev b24:List Stmt:=by exists fB (sN 24)
noncomputable abbrev s24:Scope:=by exists fS (sN 24)
noncomputable abbrev a25:Arguments:=by exists fA (sN 25)
noncomputable abbrev b25:List Stmt:=by exists fB (sN 25)
noncomputable abbrev s25:Scope:=by exists fS (sN 25)
noncomputable abbrev a27:Arguments:=by exists fA (sN 27)
noncomputable abbrev b27:List Stmt:=by exists fB (sN 27)
noncomputable abbrev s27:Scope:=by exists fS (sN 27)
noncomputable abbrev a48:Arguments:=by exists fA (sN 48)
noncomputable abbrev b48:List Stmt:=by exists fB (sN 48)
noncomputable abbrev s48:Scope:=by exists fS (sN 48)
noncomputable abbrev a50:Arguments:=by exists fA (sN 50)
noncomputable abbrev b50:List Stmt:=by exists fB (sN 50)
noncomputable abbrev s50:Scope:=by exists fS (sN 50)
noncomputable abbrev a51:Arguments:=by exists fA (sN 51)
noncomputable abbrev b51:List Stmt:=by exists fB (sN 51)
noncomputable abbrev s51:Scope:=by exists fS (sN 51)
noncomputable abbrev a52:Arguments:=by exists fA (sN 52)
noncomputable abbrev b52:List Stmt:=by exists fB (sN 52)
noncomputable abbrev s52:Scope:=by exists fS (sN 52)
noncomputable abbrev a53:Arguments:=by exists fA (sN 53)
noncomputable abbrev b53:List Stmt:=by exists fB (sN 53)
noncomputable abbrev s53:Scope:=by exists fS (sN 53)
noncomputable abbrev a54:Arguments:=by exists fA (sN 54)
noncomputable abbrev b54:List Stmt:=by exists fB (sN 54)
noncomputable abbrev s54:Scope:=by exists fS (sN 54)
noncomputable abbrev a55:Arguments:=by exists fA (sN 55)
noncomputable abbrev b55:List Stmt:=by exists fB (sN 55)
noncomputable abbrev s55:Scope:=by exists fS (sN 55)
noncomputable abbrev a56:Arguments:=by exists fA (sN 56)
noncomputable abbrev b56:List Stmt:=by exists fB (sN 56)
noncomputable abbrev s56:Scope:=by exists fS (sN 56)
noncomputable abbrev fo (x q:String)(a:Arguments)(b:List Stmt)(s:Scope)(g:Nat)(d k:Value)(m:String)(t c:Nat):Obj:={cls:=.type "function",data:=.func {name:=.ofString x,qualname:=.ofString q,params:=a,body:=.stmts b,scope:=s,globals:=g,closure:= [],defaults:=d,kwdefaults:=k,pyModule:=S m t,code:=R c}}
noncomputable abbrev ff (x q:String)(a:Arguments)(b:List Stmt)(s:Scope):Obj:={cls:=.none,data:=.func {name:=.ofString x,qualname:=.ofString q,params:=a,body:=.stmts b,scope:=s,globals:=0,closure:= [],defaults:=.none,kwdefaults:=.none}}
noncomputable abbrev co (x:String)(t:Nat)(y:String)(u p a b c d e r:Nat)(z:Bool)(i:Nat)(j k l n:Value)(f g h:Nat):Obj:={cls:=.type "code",data:=.fields #[S x t,S y u,S "/claim/cut.py" p,I a 0,I b 0,I c 0,I d 0,I e 0,R r,.bool z,I 181 0,R i,j,k,l,n,I f 0,I g 0,S "/claim/cut.py" h]}
noncomputable def o11 (P:Params):Obj:={cls:=.type "tuple",data:=.seq #[]}
noncomputable def o13 (P:Params):Obj:=by exists co "<module>" 182 "<module>" 183 184 1 0 0 0 0 11 false 12 .none .none .none .none 185 1 186
noncomputable def o14 (P:Params):Obj:={cls:=.type "frame",slots:= #[some (R 13),some (R 3),some (R 3),none,some (S "__main__" 164),none,some (R 0)]}
noncomputable def o15 (P:Params):Obj:={cls:=.type "tuple",data:=.seq #[]}
noncomputable def o16 (P:Params):Obj:={cls:=.none,data:=.fields #[]}
noncomputable def o17 (P:Params):Obj:={cls:=.type "tuple",data:=.seq #[S "k" 190]}
noncomputable def o18 (P:Params):Obj:={cls:=.type "tuple",data:=.seq #[]}
noncomputable def o19 (P:Params):Obj:=by exists ff "_wall" "_wall" a0 b0 s0
noncomputable def o20 (P:Params):Obj:=by exists co "_wall" 187 "_wall" 188 189 1 1 0 0 3 15 true 16 .none (R 17) (R 18) (R 19) 191 1 192
noncomputable def o21 (P:Params):Obj:=by exists fo "_wall" "_wall" a0 b0 s0 3 .none .none "__main__" 164 20
noncomputable def o22 (P:Params):Obj:={cls:=.type "tuple",data:=.seq #[.type "ValueError"]}
noncomputable def o23 (P:Params):Obj:={cls:=.type "builtin_function_or_method",data:=.fields #[.builtin "type.__prepare__",.type "type"]}
noncomputable def o24 (P:Params):Obj:={cls:=.type "dict",data:=.dict #[E P "__module__" 203 (S "cpy313.statistics" 194),E P "__qualname__" 205 (S "StatisticsError" 204),E P "__firstlineno__" 207 (I 5 206),E P "__static_attributes__" 208 (R 29)] 4}
noncomputable def o25 (P:Params):Obj:={cls:=.type "tuple",data:=.seq #[]}
noncomputable def o26 (P:Params):Obj:={cls:=.none,data:=.fields #[]}
noncomputable def o27 (P:Params):Obj:=by exists co "StatisticsError" 198 "StatisticsError" 199 200 5 0 0 0 0 25 false 26 .none .none .none .none 201 5 202
noncomputable def o28 (P:Params):Obj:={cls:=.type "frame",slots:= #[some (R 27),some (R 3),some (R 24),none,some (S "cpy313.statistics" 194),none,some (R 0)]}
noncomputable def o29 (P:Params):Obj:={cls:=.type "tuple",data:=.seq #[]}
noncomputable def o30 (P:Params):Obj:={cls:=.type "dict",data:=.dict #[E P "__module__" 203 (S "cpy313.statistics" 194),E P "__firstlineno__" 207 (I 5 206),E P "__static_attributes__" 208 (R 29),E P "__weakref__" 210 (R 32),E P "__doc__" 211 .none] 3}
noncomputable def o31 (P:Params):Obj:={cls:=.type "type",data:=.cls {name:= "StatisticsError",bases:= [.type "ValueError"],mro:= [R 31,.type "ValueError",.type "Exception",.type "BaseException",.type "object"],ns:=30,qualname:= "StatisticsError",hasDict:=true,slotNames:= []},slots:= #[some (R 22),none,some (S "StatisticsError" 196),some (S "StatisticsError" 204),some (.builtin "ValueError.__new__"),some (.bool true)]}
noncomputable def o32 (P:Params):Obj:={cls:=.type "getset_descriptor",data:=.fields #[S "__weakref__" 209,R 31,.builtin "ExceptionGroup.__weakref__",.none]}
noncomputable def o33 (P:Params):Obj:={cls:=.type "super",data:=.fields #[R 31,R 31,R 31]}
noncomputable def o34 (P:Params):Obj:={cls:=.type "builtin_function_or_method",data:=.fields #[.builtin "object.__init_subclass__",R 31]}
noncomputable def o35 (P:Params):Obj:={cls:=.type "tuple",data:=.seq #[]}
noncomputable def o36 (P:Params):Obj:={cls:=.none,data:=.fields #[]}
noncomputable def o37 (P:Params):Obj:={cls:=.type "tuple",data:=.seq #[S "x" 221,S "t" 222]}
noncomputable def o38 (P:Params):Obj:={cls:=.type "tuple",data:=.seq #[]}
noncomputable def o39 (P:Params):Obj:=by exists ff "_is_int" "_is_int" a5 b5 s5
noncomputable def o40 (P:Params):Obj:=by exists co "_is_int" 218 "_is_int" 219 220 9 1 0 0 3 35 true 36 .none (R 37) (R 38) (R 39) 223 9 224
noncomputable def o41 (P:Params):Obj:=by exists fo "_is_int" "_is_int" a5 b5 s5 3 .none .none "itertools" 214 40
noncomputable def o42 (P:Params):Obj:={cls:=.type "tuple",data:=.seq #[]}
noncomputable def o43 (P:Params):Obj:={cls:=.none,data:=.fields #[]}
noncomputable def o44 (P:Params):Obj:={cls:=.type "tuple",data:=.seq #[S "it" 229]}
noncomputable def o45 (P:Params):Obj:={cls:=.type "tuple",data:=.seq #[]}
noncomputable def o46 (P:Params):Obj:=by exists ff "_pull" "_pull" a6 b6 s6
noncomputable def o47 (P:Params):Obj:=by exists co "_pull" 226 "_pull" 227 228 12 1 0 0 3 42 true 43 .none (R 44) (R 45) (R 46) 230 12 231
noncomputable def o48 (P:Params):Obj:=by exists fo "_pull" "_pull" a6 b6 s6 3 .none .none "itertools" 214 47
noncomputable def o49 (P:Params):Obj:={cls:=.type "tuple",data:=.seq #[]}
noncomputable def o50 (P:Params):Obj:={cls:=.none,data:=.fields #[]}
noncomputable def o51 (P:Params):Obj:={cls:=.type "tuple",data:=.seq #[S "a" 236,S "b" 237]}
noncomputable def o52 (P:Params):Obj:={cls:=.type "tuple",data:=.seq #[]}
noncomputable def o53 (P:Params):Obj:=by exists ff "_same" "_same" a7 b7 s7
noncomputable def o54 (P:Params):Obj:=by exists co "_same" 233 "_same" 234 235 17 2 0 0 3 49 true 50 .none (R 51) (R 52) (R 53) 238 17 239
noncomputable def o55 (P:Params):Obj:=by exists fo "_same" "_same" a7 b7 s7 3 .none .none "itertools" 214 54
noncomputable def o56 (P:Params):Obj:={cls:=.type "tuple",data:=.seq #[]}
noncomputable def o57 (P:Params):Obj:={cls:=.type "builtin_function_or_method",data:=.fields #[.builtin "type.__prepare__",.type "type"]}
noncomputable def o58 (P:Params):Obj:={cls:=.type "dict",data:=.dict #[E P "__module__" 248 (S "itertools" 214),E P "__qualname__" 250 (S "groupby" 249),E P "__firstlineno__" 252 (I 23 251),E P "__slots__" 263 (R 63),E P "__init__" 272 (R 71),E P "__iter__" 279 (R 78),E P "_step" 289 (R 85),E P "__next__" 297 (R 92),E P "__static_attributes__" 308 (R 93)] 9}
noncomputable def o59 (P:Params):Obj:={cls:=.type "tuple",data:=.seq #[]}
noncomputable def o60 (P:Params):Obj:={cls:=.none,data:=.fields #[I 26 0,I 4 0,R 70,I 38 0,I 4 0,R 77,I 41 0,I 4 0,R 84,I 54 0,I 4 0,R 91]}
noncomputable def o61 (P:Params):Obj:=by exists co "groupby" 243 "groupby" 244 245 23 0 0 0 0 59 false 60 .none .none .none .none 246 23 247
noncomputable def o62 (P:Params):Obj:={cls:=.type "frame",slots:= #[some (R 61),some (R 3),some (R 58),none,some (S "itertools" 214),none,some (R 0)]}
noncomputable def o63 (P:Params):Obj:={cls:=.type "tuple",data:=.seq #[S "_keyfunc" 253,S "_it" 254,S "_has_tgtkey" 255,S "_tgtkey" 256,S "_has_currkey" 257,S "_currkey" 258,S "_has_currvalue" 259,S "_currvalue" 260,S "_currgrouper" 261,S "_serial" 262]}
noncomputable def o64 (P:Params):Obj:={cls:=.type "tuple",data:=.seq #[.none]}
noncomputable def o65 (P:Params):Obj:={cls:=.type "tuple",data:=.seq #[]}
noncomputable def o66 (P:Params):Obj:={cls:=.none,data:=.fields #[]}
noncomputable def o67 (P:Params):Obj:={cls:=.type "tuple",data:=.seq #[S "self" 267,S "iterable" 268,S "key" 269]}
noncomputable def o68 (P:Params):Obj:={cls:=.type "tuple",data:=.seq #[]}
noncomputable def o69 (P:Params):Obj:=by exists ff "__init__" "groupby.__init__" Pm Pf La
noncomputable def o70 (P:Params):Obj:=by exists co "__init__" 264 "groupby.__init__" 265 266 26 3 0 0 3 65 true 66 .none (R 67) (R 68) (R 69) 270 26 271
noncomputable def o71 (P:Params):Obj:=by exists fo "__init__" "groupby.__init__" Pm Pf La 3 (R 64) .none "itertools" 214 70
noncomputable def o72 (P:Params):Obj:={cls:=.type "tuple",data:=.seq #[]}
noncomputable def o73 (P:Params):Obj:={cls:=.none,data:=.fields #[]}
noncomputable def o74 (P:Params):Obj:={cls:=.type "tuple",data:=.seq #[S "self" 276]}
noncomputable def o75 (P:Params):Obj:={cls:=.type "tuple",data:=.seq #[]}
noncomputable def o76 (P:Params):Obj:=by exists ff "__iter__" "groupby.__iter__" Pl Pe LZ
noncomputable def o77 (P:Params):Obj:=by exists co "__iter__" 273 "groupby.__iter__" 274 275 38 1 0 0 3 72 true 73 .none (R 74) (R 75) (R 76) 277 38 278
noncomputable def o78 (P:Params):Obj:=by exists fo "__iter__" "groupby.__iter__" Pl Pe LZ 3 .none .none "itertools" 214 77
noncomputable def o79 (P:Params):Obj:={cls:=.type "tuple",data:=.seq #[]}
noncomputable def o80 (P:Params):Obj:={cls:=.none,data:=.fields #[]}
noncomputable def o81 (P:Params):Obj:={cls:=.type "tuple",data:=.seq #[S "self" 283,S "more" 284,S "newvalue" 285,S "newkey" 286]}
noncomputable def o82 (P:Params):Obj:={cls:=.type "tuple",data:=.seq #[]}
noncomputable def o83 (P:Params):Obj:=by exists ff "_step" "groupby._step" Pk Pd LY
noncomputable def o84 (P:Params):Obj:=by exists co "_step" 280 "groupby._step" 281 282 41 1 0 0 3 79 true 80 .none (R 81) (R 82) (R 83) 287 41 288
noncomputable def o85 (P:Params):Obj:=by exists fo "_step" "groupby._step" Pk Pd LY 3 .none .none "itertools" 214 84
noncomputable def o86 (P:Params):Obj:={cls:=.type "tuple",data:=.seq #[]}
noncomputable def o87 (P:Params):Obj:={cls:=.none,data:=.fields #[]}
noncomputable def o88 (P:Params):Obj:={cls:=.type "tuple",data:=.seq #[S "self" 293,S "grouper" 294]}
noncomputable def o89 (P:Params):Obj:={cls:=.type "tuple",data:=.seq #[]}
noncomputable def o90 (P:Params):Obj:=by exists ff "__next__" "groupby.__next__" Pj Pc LX
noncomputable def o91 (P:Params):Obj:=by exists co "__next__" 290 "groupby.__next__" 291 292 54 1 0 0 3 86 true 87 .none (R 88) (R 89) (R 90) 295 54 296
noncomputable def o92 (P:Params):Obj:=by exists fo "__next__" "groupby.__next__" Pj Pc LX 3 .none .none "itertools" 214 91
noncomputable def o93 (P:Params):Obj:={cls:=.type "tuple",data:=.seq #[S "_currgrouper" 298,S "_currkey" 299,S "_currvalue" 300,S "_has_currkey" 301,S "_has_currvalue" 302,S "_has_tgtkey" 303,S "_it" 304,S "_keyfunc" 305,S "_serial" 306,S "_tgtkey" 307]}
noncomputable def o94 (P:Params):Obj:={cls:=.type "list",data:=.seq #[S "_keyfunc" 253,S "_it" 254,S "_has_tgtkey" 255,S "_tgtkey" 256,S "_has_currkey" 257,S "_currkey" 258,S "_has_currvalue" 259,S "_currvalue" 260,S "_currgrouper" 261,S "_serial" 262] 1}
noncomputable def o95 (P:Params):Obj:={cls:=.type "dict",data:=.dict #[E P "__module__" 248 (S "itertools" 214),E P "__firstlineno__" 252 (I 23 251),E P "__slots__" 263 (R 63),E P "__init__" 272 (R 71),E P "__iter__" 279 (R 78),E P "_step" 289 (R 85),E P "__next__" 297 (R 92),E P "__static_attributes__" 308 (R 93),E P "_currgrouper" 310 (R 97),E P "_currkey" 312 (R 98),E P "_currvalue" 314 (R 99),E P "_has_currkey" 316 (R 100),E P "_has_currvalue" 318 (R 101),E P "_has_tgtkey" 320 (R 102),E P "_it" 322 (R 103),E P "_keyfunc" 324 (R 104),E P "_serial" 326 (R 105),E P "_tgtkey" 328 (R 106),E P "__doc__" 329 .none] 12}
noncomputable def o96 (P:Params):Obj:={cls:=.type "type",data:=.cls {name:= "groupby",bases:= [.type "object"],mro:= [R 96,.type "object"],ns:=95,qualname:= "groupby",hasDict:=false,slotNames:= ["_currgrouper","_currkey","_currvalue","_has_currkey","_has_currvalue","_has_tgtkey","_it","_keyfunc","_serial","_tgtkey"]},slots:= #[none,none,some (S "groupby" 241),some (S "groupby" 249),some (.builtin "object.__new__"),some (.bool false)]}
noncomputable def o97 (P:Params):Obj:={cls:=.type "member_descriptor",data:=.fields #[S "_currgrouper" 309,R 96,.builtin "proto.slot",.builtin "proto.slot#set",I 9 0]}
noncomputable def o98 (P:Params):Obj:={cls:=.type "member_descriptor",data:=.fields #[S "_currkey" 311,R 96,.builtin "proto.slot",.builtin "proto.slot#set",I 8 0]}
noncomputable def o99 (P:Params):Obj:={cls:=.type "member_descriptor",data:=.fields #[S "_currvalue" 313,R 96,.builtin "proto.slot",.builtin "proto.slot#set",I 7 0]}
noncomputable def PN (P:Params):Obj:={cls:=.type "member_descriptor",data:=.fields #[S "_has_currkey" 315,R 96,.builtin "proto.slot",.builtin "proto.slot#set",I 6 0]}
noncomputable def PM (P:Params):Obj:={cls:=.type "member_descriptor",data:=.fields #[S "_has_currvalue" 317,R 96,.builtin "proto.slot",.builtin "proto.slot#set",I 5 0]}
noncomputable def PK (P:Params):Obj:={cls:=.type "member_descriptor",data:=.fields #[S "_has_tgtkey" 319,R 96,.builtin "proto.slot",.builtin "proto.slot#set",I 4 0]}
noncomputable def PJ (P:Params):Obj:={cls:=.type "member_descriptor",data:=.fields #[S "_it" 321,R 96,.builtin "proto.slot",.builtin "proto.slot#set",I 3 0]}
noncomputable def PI (P:Params):Obj:={cls:=.type "member_descriptor",data:=.fields #[S "_keyfunc" 323,R 96,.builtin "proto.slot",.builtin "proto.slot#set",I 2 0]}
noncomputable def PH (P:Params):Obj:={cls:=.type "member_descriptor",data:=.fields #[S "_serial" 325,R 96,.builtin "proto.slot",.builtin "proto.slot#set",I 1 0]}
noncomputable def PG (P:Params):Obj:={cls:=.type "member_descriptor",data:=.fields #[S "_tgtkey" 327,R 96,.builtin "proto.slot",.builtin "proto.slot#set",I 0 0]}
noncomputable def o107 (P:Params):Obj:={cls:=.type "super",data:=.fields #[R 96,R 96,R 96]}
noncomputable def o108 (P:Params):Obj:={cls:=.type "builtin_function_or_method",data:=.fields #[.builtin "object.__init_subclass__",R 96]}
noncomputable def o109 (P:Params):Obj:={cls:=.type "tuple",data:=.seq #[]}
noncomputable def o110 (P:Params):Obj:={cls:=.type "builtin_function_or_method",data:=.fields #[.builtin "type.__prepare__",.type "type"]}
noncomputable def o111 (P:Params):Obj:={cls:=.type "dict",data:=.dict #[E P "__module__" 339 (S "itertools" 214),E P "__qualname__" 341 (S "_grouper" 340),E P "__firstlineno__" 343 (I 67 342),E P "__slots__" 347 (R 116),E P "__init__" 356 (R 123),E P "__iter__" 363 (R 130),E P "__next__" 372 (R 137),E P "__static_attributes__" 376 (R 138)] 8}
noncomputable def o112 (P:Params):Obj:={cls:=.type "tuple",data:=.seq #[]}
noncomputable def o113 (P:Params):Obj:={cls:=.none,data:=.fields #[I 70 0,I 4 0,R 122,I 79 0,I 4 0,R 129,I 82 0,I 4 0,R 136]}
noncomputable def o114 (P:Params):Obj:=by exists co "_grouper" 334 "_grouper" 335 336 67 0 0 0 0 112 false 113 .none .none .none .none 337 67 338
noncomputable def o115 (P:Params):Obj:={cls:=.type "frame",slots:= #[some (R 114),some (R 3),some (R 111),none,some (S "itertools" 214),none,some (R 0)]}
noncomputable def PF (P:Params):Obj:={cls:=.type "tuple",data:=.seq #[S "_parent" 344,S "_tgtkey" 345,S "_number" 346]}
noncomputable def PE (P:Params):Obj:={cls:=.type "tuple",data:=.seq #[]}
noncomputable def o118 (P:Params):Obj:={cls:=.none,data:=.fields #[]}
noncomputable def PD (P:Params):Obj:={cls:=.type "tuple",data:=.seq #[S "self" 351,S "parent" 352,S "tgtkey" 353]}
noncomputable def PC (P:Params):Obj:={cls:=.type "tuple",data:=.seq #[]}
noncomputable def o121 (P:Params):Obj:=by exists ff "__init__" "_grouper.__init__" Pi Pb LW
noncomputable def PB (P:Params):Obj:=by exists co "__init__" 348 "_grouper.__init__" 349 350 70 3 3 0 3 117 true 118 .none (R 119) (R 120) (R 121) 354 70 355
noncomputable def PA (P:Params):Obj:=by exists fo "__init__" "_grouper.__init__" Pi Pb LW 3 .none .none "itertools" 214 122
noncomputable def O9 (P:Params):Obj:={cls:=.type "tuple",data:=.seq #[]}
noncomputable def o125 (P:Params):Obj:={cls:=.none,data:=.fields #[]}
noncomputable def O8 (P:Params):Obj:={cls:=.type "tuple",data:=.seq #[S "self" 360]}
noncomputable def O7 (P:Params):Obj:={cls:=.type "tuple",data:=.seq #[]}
noncomputable def o128 (P:Params):Obj:=by exists ff "__iter__" "_grouper.__iter__" Ph Pa LV
noncomputable def O6 (P:Params):Obj:=by exists co "__iter__" 357 "_grouper.__iter__" 358 359 79 1 0 0 3 124 true 125 .none (R 126) (R 127) (R 128) 361 79 362
noncomputable def O5 (P:Params):Obj:=by exists fo "__iter__" "_grouper.__iter__" Ph Pa LV 3 .none .none "itertools" 214 129
noncomputable def O4 (P:Params):Obj:={cls:=.type "tuple",data:=.seq #[]}
noncomputable def o132 (P:Params):Obj:={cls:=.none,data:=.fields #[]}
noncomputable def O3 (P:Params):Obj:={cls:=.type "tuple",data:=.seq #[S "self" 367,S "gbo" 368,S "r" 369]}
noncomputable def O2 (P:Params):Obj:={cls:=.type "tuple",data:=.seq #[]}
noncomputable def o135 (P:Params):Obj:=by exists ff "__next__" "_grouper.__next__" Pg PZ LU
noncomputable def O1 (P:Params):Obj:=by exists co "__next__" 364 "_grouper.__next__" 365 366 82 1 0 0 3 131 true 132 .none (R 133) (R 134) (R 135) 370 82 371
noncomputable def O0 (P:Params):Obj:=by exists fo "__next__" "_grouper.__next__" Pg PZ LU 3 .none .none "itertools" 214 136
noncomputable def Oz (P:Params):Obj:={cls:=.type "tuple",data:=.seq #[S "_number" 373,S "_parent" 374,S "_tgtkey" 375]}
noncomputable def o139 (P:Params):Obj:={cls:=.type "list",data:=.seq #[S "_parent" 344,S "_tgtkey" 345,S "_number" 346] 1}
noncomputable def Oy (P:Params):Obj:={cls:=.type "dict",data:=.dict #[E P "__module__" 339 (S "itertools" 214),E P "__firstlineno__" 343 (I 67 342),E P "__slots__" 347 (R 116),E P "__init__" 356 (R 123),E P "__iter__" 363 (R 130),E P "__next__" 372 (R 137),E P "__static_attributes__" 376 (R 138),E P "_number" 378 (R 142),E P "_parent" 380 (R 143),E P "_tgtkey" 382 (R 144),E P "__doc__" 383 .none] 5}
noncomputable def Ox (P:Params):Obj:={cls:=.type "type",data:=.cls {name:= "_grouper",bases:= [.type "object"],mro:= [R 141,.type "object"],ns:=140,qualname:= "_grouper",hasDict:=false,slotNames:= ["_number","_parent","_tgtkey"]},slots:= #[none,none,some (S "_grouper" 332),some (S "_grouper" 340),some (.builtin "object.__new__"),some (.bool false)]}
noncomputable def Ow (P:Params):Obj:={cls:=.type "member_descriptor",data:=.fields #[S "_number" 377,R 141,.builtin "proto.slot",.builtin "proto.slot#set",I 2 0]}
noncomputable def Ov (P:Params):Obj:={cls:=.type "member_descriptor",data:=.fields #[S "_parent" 379,R 141,.builtin "proto.slot",.builtin "proto.slot#set",I 1 0]}
noncomputable def Ou (P:Params):Obj:={cls:=.type "member_descriptor",data:=.fields #[S "_tgtkey" 381,R 141,.builtin "proto.slot",.builtin "proto.slot#set",I 0 0]}
noncomputable def o145 (P:Params):Obj:={cls:=.type "super",data:=.fields #[R 141,R 141,R 141]}
noncomputable def o146 (P:Params):Obj:={cls:=.type "builtin_function_or_method",data:=.fields #[.builtin "object.__init_subclass__",R 141]}
noncomputable def Ot (P:Params):Obj:={cls:=.type "tuple",data:=.seq #[]}
noncomputable def o148 (P:Params):Obj:={cls:=.none,data:=.fields #[]}
noncomputable def Os (P:Params):Obj:={cls:=.type "tuple",data:=.seq #[S "x" 389,S "t" 390]}
noncomputable def Oq (P:Params):Obj:={cls:=.type "tuple",data:=.seq #[]}
noncomputable def o151 (P:Params):Obj:=by exists ff "_count_kind" "_count_kind" a10 b10 s10
noncomputable def Op (P:Params):Obj:=by exists co "_count_kind" 386 "_count_kind" 387 388 96 1 0 0 3 147 true 148 .none (R 149) (R 150) (R 151) 391 96 392
noncomputable def Oo (P:Params):Obj:=by exists fo "_count_kind" "_count_kind" a10 b10 s10 3 .none .none "itertools" 214 152
noncomputable def o154 (P:Params):Obj:={cls:=.type "tuple",data:=.seq #[]}
noncomputable def o155 (P:Params):Obj:={cls:=.type "builtin_function_or_method",data:=.fields #[.builtin "type.__prepare__",.type "type"]}
noncomputable def o156 (P:Params):Obj:={cls:=.type "dict",data:=.dict #[E P "__module__" 401 (S "itertools" 214),E P "__qualname__" 403 (S "count" 402),E P "__firstlineno__" 405 (I 105 404),E P "__slots__" 409 (R 161),E P "__init__" 423 (R 169),E P "__iter__" 430 (R 176),E P "__next__" 438 (R 183),E P "__repr__" 445 (R 190),E P "__static_attributes__" 449 (R 191)] 9}
noncomputable def o157 (P:Params):Obj:={cls:=.type "tuple",data:=.seq #[]}
noncomputable def o158 (P:Params):Obj:={cls:=.none,data:=.fields #[I 108 0,I 4 0,R 168,I 120 0,I 4 0,R 175,I 123 0,I 4 0,R 182,I 128 0,I 4 0,R 189]}
noncomputable def o159 (P:Params):Obj:=by exists co "count" 396 "count" 397 398 105 0 0 0 0 157 false 158 .none .none .none .none 399 105 400
noncomputable def o160 (P:Params):Obj:={cls:=.type "frame",slots:= #[some (R 159),some (R 3),some (R 156),none,some (S "itertools" 214),none,some (R 0)]}
noncomputable def On (P:Params):Obj:={cls:=.type "tuple",data:=.seq #[S "_fast" 406,S "_cnt" 407,S "_step" 408]}
noncomputable def Om (P:Params):Obj:={cls:=.type "tuple",data:=.seq #[I 0 410,I 1 411]}
noncomputable def Ol (P:Params):Obj:={cls:=.type "tuple",data:=.seq #[]}
noncomputable def o164 (P:Params):Obj:={cls:=.none,data:=.fields #[]}
noncomputable def Ok (P:Params):Obj:={cls:=.type "tuple",data:=.seq #[S "self" 415,S "start" 416,S "step" 417,S "k_start" 418,S "k_step" 419,S "fast" 420]}
noncomputable def Oj (P:Params):Obj:={cls:=.type "tuple",data:=.seq #[]}
noncomputable def o167 (P:Params):Obj:=by exists ff "__init__" "count.__init__" Ks Kj KZ
noncomputable def Oi (P:Params):Obj:=by exists co "__init__" 412 "count.__init__" 413 414 108 3 0 0 3 163 true 164 .none (R 165) (R 166) (R 167) 421 108 422
noncomputable def Oh (P:Params):Obj:=by exists fo "__init__" "count.__init__" Ks Kj KZ 3 (R 162) .none "itertools" 214 168
noncomputable def Og (P:Params):Obj:={cls:=.type "tuple",data:=.seq #[]}
noncomputable def o171 (P:Params):Obj:={cls:=.none,data:=.fields #[]}
noncomputable def Of (P:Params):Obj:={cls:=.type "tuple",data:=.seq #[S "self" 427]}
noncomputable def Oe (P:Params):Obj:={cls:=.type "tuple",data:=.seq #[]}
noncomputable def o174 (P:Params):Obj:=by exists ff "__iter__" "count.__iter__" Kr Ki KY
noncomputable def Od (P:Params):Obj:=by exists co "__iter__" 424 "count.__iter__" 425 426 120 1 0 0 3 170 true 171 .none (R 172) (R 173) (R 174) 428 120 429
noncomputable def Oc (P:Params):Obj:=by exists fo "__iter__" "count.__iter__" Kr Ki KY 3 .none .none "itertools" 214 175
noncomputable def Ob (P:Params):Obj:={cls:=.type "tuple",data:=.seq #[]}
noncomputable def o178 (P:Params):Obj:={cls:=.none,data:=.fields #[]}
noncomputable def Oa (P:Params):Obj:={cls:=.type "tuple",data:=.seq #[S "self" 434,S "value" 435]}
noncomputable def OZ (P:Params):Obj:={cls:=.type "tuple",data:=.seq #[]}
noncomputable def o181 (P:Params):Obj:=by exists ff "__next__" "count.__next__" Kq Kh KX
noncomputable def OY (P:Params):Obj:=by exists co "__next__" 431 "count.__next__" 432 433 123 1 0 0 3 177 true 178 .none (R 179) (R 180) (R 181) 436 123 437
noncomputable def OX (P:Params):Obj:=by exists fo "__next__" "count.__next__" Kq Kh KX 3 .none .none "itertools" 214 182
noncomputable def OW (P:Params):Obj:={cls:=.type "tuple",data:=.seq #[]}
noncomputable def o185 (P:Params):Obj:={cls:=.none,data:=.fields #[]}
noncomputable def OV (P:Params):Obj:={cls:=.type "tuple",data:=.seq #[S "self" 442]}
noncomputable def OU (P:Params):Obj:={cls:=.type "tuple",data:=.seq #[]}
noncomputable def o188 (P:Params):Obj:=by exists ff "__repr__" "count.__repr__" Kp Kg KW
noncomputable def OT (P:Params):Obj:=by exists co "__repr__" 439 "count.__repr__" 440 441 128 1 0 0 3 184 true 185 .none (R 186) (R 187) (R 188) 443 128 444
noncomputable def OS (P:Params):Obj:=by exists fo "__repr__" "count.__repr__" Kp Kg KW 3 .none .none "itertools" 214 189
noncomputable def OR (P:Params):Obj:={cls:=.type "tuple",data:=.seq #[S "_cnt" 446,S "_fast" 447,S "_step" 448]}
noncomputable def o192 (P:Params):Obj:={cls:=.type "list",data:=.seq #[S "_fast" 406,S "_cnt" 407,S "_step" 408] 1}
noncomputable def OQ (P:Params):Obj:={cls:=.type "dict",data:=.dict #[E P "__module__" 401 (S "itertools" 214),E P "__firstlineno__" 405 (I 105 404),E P "__slots__" 409 (R 161),E P "__init__" 423 (R 169),E P "__iter__" 430 (R 176),E P "__next__" 438 (R 183),E P "__repr__" 445 (R 190),E P "__static_attributes__" 449 (R 191),E P "_cnt" 451 (R 195),E P "_fast" 453 (R 196),E P "_step" 455 (R 197),E P "__doc__" 456 .none] 5}
noncomputable def OP (P:Params):Obj:={cls:=.type "type",data:=.cls {name:= "count",bases:= [.type "object"],mro:= [R 194,.type "object"],ns:=193,qualname:= "count",hasDict:=false,slotNames:= ["_cnt","_fast","_step"]},slots:= #[none,none,some (S "count" 394),some (S "count" 402),some (.builtin "object.__new__"),some (.bool false)]}
noncomputable def OO (P:Params):Obj:={cls:=.type "member_descriptor",data:=.fields #[S "_cnt" 450,R 194,.builtin "proto.slot",.builtin "proto.slot#set",I 2 0]}
noncomputable def ON (P:Params):Obj:={cls:=.type "member_descriptor",data:=.fields #[S "_fast" 452,R 194,.builtin "proto.slot",.builtin "proto.slot#set",I 1 0]}
noncomputable def OM (P:Params):Obj:={cls:=.type "member_descriptor",data:=.fields #[S "_step" 454,R 194,.builtin "proto.slot",.builtin "proto.slot#set",I 0 0]}
noncomputable def o198 (P:Params):Obj:={cls:=.type "super",data:=.fields #[R 194,R 194,R 194]}
noncomputable def o199 (P:Params):Obj:={cls:=.type "builtin_function_or_method",data:=.fields #[.builtin "object.__init_subclass__",R 194]}
noncomputable def o200 (P:Params):Obj:={cls:=.type "tuple",data:=.seq #[]}
noncomputable def o201 (P:Params):Obj:={cls:=.type "builtin_function_or_method",data:=.fields #[.builtin "type.__prepare__",.type "type"]}
noncomputable def o202 (P:Params):Obj:={cls:=.type "dict",data:=.dict #[E P "__module__" 468 (S "operator" 459),E P "__qualname__" 470 (S "itemgetter" 469),E P "__firstlineno__" 472 (I 133 471),E P "__slots__" 474 (R 207),E P "__init__" 483 (R 214),E P "__call__" 494 (R 221),E P "__repr__" 502 (R 228),E P "__reduce__" 509 (R 235),E P "__static_attributes__" 511 (R 236)] 9}
noncomputable def o203 (P:Params):Obj:={cls:=.type "tuple",data:=.seq #[]}
noncomputable def o204 (P:Params):Obj:={cls:=.none,data:=.fields #[I 136 0,I 4 0,R 213,I 139 0,I 4 0,R 220,I 148 0,I 4 0,R 227,I 154 0,I 4 0,R 234]}
noncomputable def o205 (P:Params):Obj:=by exists co "itemgetter" 463 "itemgetter" 464 465 133 0 0 0 0 203 false 204 .none .none .none .none 466 133 467
noncomputable def o206 (P:Params):Obj:={cls:=.type "frame",slots:= #[some (R 205),some (R 3),some (R 202),none,some (S "operator" 459),none,some (R 0)]}
noncomputable def OL (P:Params):Obj:={cls:=.type "tuple",data:=.seq #[S "_items" 473]}
noncomputable def OK (P:Params):Obj:={cls:=.type "tuple",data:=.seq #[]}
noncomputable def o209 (P:Params):Obj:={cls:=.none,data:=.fields #[]}
noncomputable def OJ (P:Params):Obj:={cls:=.type "tuple",data:=.seq #[S "self" 478,S "item" 479,S "items" 480]}
noncomputable def OI (P:Params):Obj:={cls:=.type "tuple",data:=.seq #[]}
noncomputable def o212 (P:Params):Obj:=by exists ff "__init__" "itemgetter.__init__" Ko Kf KV
noncomputable def OH (P:Params):Obj:=by exists co "__init__" 475 "itemgetter.__init__" 476 477 136 2 2 0 7 208 true 209 .none (R 210) (R 211) (R 212) 481 136 482
noncomputable def OG (P:Params):Obj:=by exists fo "__init__" "itemgetter.__init__" Ko Kf KV 3 .none .none "operator" 459 213
noncomputable def OF (P:Params):Obj:={cls:=.type "tuple",data:=.seq #[]}
noncomputable def o216 (P:Params):Obj:={cls:=.none,data:=.fields #[]}
noncomputable def OE (P:Params):Obj:={cls:=.type "tuple",data:=.seq #[S "self" 487,S "obj" 488,S "items" 489,S "result" 490,S "item" 491]}
noncomputable def OD (P:Params):Obj:={cls:=.type "tuple",data:=.seq #[]}
noncomputable def o219 (P:Params):Obj:=by exists ff "__call__" "itemgetter.__call__" Kn Ke KU
noncomputable def OC (P:Params):Obj:=by exists co "__call__" 484 "itemgetter.__call__" 485 486 139 2 2 0 3 215 true 216 .none (R 217) (R 218) (R 219) 492 139 493
noncomputable def OB (P:Params):Obj:=by exists fo "__call__" "itemgetter.__call__" Kn Ke KU 3 .none .none "operator" 459 220
noncomputable def OA (P:Params):Obj:={cls:=.type "tuple",data:=.seq #[]}
noncomputable def o223 (P:Params):Obj:={cls:=.none,data:=.fields #[]}
noncomputable def N0 (P:Params):Obj:={cls:=.type "tuple",data:=.seq #[S "self" 498,S "r" 499]}
noncomputable def Nz (P:Params):Obj:={cls:=.type "tuple",data:=.seq #[]}
noncomputable def o226 (P:Params):Obj:=by exists ff "__repr__" "itemgetter.__repr__" Km Kd KT
noncomputable def Ny (P:Params):Obj:=by exists co "__repr__" 495 "itemgetter.__repr__" 496 497 148 1 0 0 3 222 true 223 .none (R 224) (R 225) (R 226) 500 148 501
noncomputable def Nx (P:Params):Obj:=by exists fo "__repr__" "itemgetter.__repr__" Km Kd KT 3 .none .none "operator" 459 227
noncomputable def Nw (P:Params):Obj:={cls:=.type "tuple",data:=.seq #[]}
noncomputable def o230 (P:Params):Obj:={cls:=.none,data:=.fields #[]}
noncomputable def Nv (P:Params):Obj:={cls:=.type "tuple",data:=.seq #[S "self" 506]}
noncomputable def Nu (P:Params):Obj:={cls:=.type "tuple",data:=.seq #[]}
noncomputable def o233 (P:Params):Obj:=by exists ff "__reduce__" "itemgetter.__reduce__" Kl Kc KS
noncomputable def Nt (P:Params):Obj:=by exists co "__reduce__" 503 "itemgetter.__reduce__" 504 505 154 1 0 0 3 229 true 230 .none (R 231) (R 232) (R 233) 507 154 508
noncomputable def Nr (P:Params):Obj:=by exists fo "__reduce__" "itemgetter.__reduce__" Kl Kc KS 3 .none .none "operator" 459 234
noncomputable def Nq (P:Params):Obj:={cls:=.type "tuple",data:=.seq #[S "_items" 510]}
noncomputable def o237 (P:Params):Obj:={cls:=.type "list",data:=.seq #[S "_items" 473] 1}
noncomputable def Np (P:Params):Obj:={cls:=.type "dict",data:=.dict #[E P "__module__" 468 (S "operator" 459),E P "__firstlineno__" 472 (I 133 471),E P "__slots__" 474 (R 207),E P "__init__" 483 (R 214),E P "__call__" 494 (R 221),E P "__repr__" 502 (R 228),E P "__reduce__" 509 (R 235),E P "__static_attributes__" 511 (R 236),E P "_items" 513 (R 240),E P "__doc__" 514 .none] 3}
noncomputable def No (P:Params):Obj:={cls:=.type "type",data:=.cls {name:= "itemgetter",bases:= [.type "object"],mro:= [R 239,.type "object"],ns:=238,qualname:= "itemgetter",hasDict:=false,slotNames:= ["_items"]},slots:= #[none,none,some (S "itemgetter" 461),some (S "itemgetter" 469),some (.builtin "object.__new__"),some (.bool false)]}
noncomputable def Nn (P:Params):Obj:={cls:=.type "member_descriptor",data:=.fields #[S "_items" 512,R 239,.builtin "proto.slot",.builtin "proto.slot#set",I 0 0]}
noncomputable def o241 (P:Params):Obj:={cls:=.type "super",data:=.fields #[R 239,R 239,R 239]}
noncomputable def o242 (P:Params):Obj:={cls:=.type "builtin_function_or_method",data:=.fields #[.builtin "object.__init_subclass__",R 239]}
noncomputable def Nm (P:Params):Obj:={cls:=.type "dict",data:=.dict #[E P "key" 521 .none,E P "reverse" 522 (.bool false),E P "ties" 523 (S "average" 519),E P "start" 524 (I 1 520)] 4}
noncomputable def Nk (P:Params):Obj:={cls:=.type "tuple",data:=.seq #[]}
noncomputable def o245 (P:Params):Obj:={cls:=.none,data:=.fields #[]}
noncomputable def Nj (P:Params):Obj:={cls:=.type "tuple",data:=.seq #[S "data" 528,S "key" 529,S "reverse" 530,S "ties" 531,S "start" 532,S "val_pos" 533,S "i" 534,S "result" 535,S "_" 536,S "g" 537,S "group" 538,S "size" 539,S "rank" 540,S "value" 541,S "orig_pos" 542]}
noncomputable def Ni (P:Params):Obj:={cls:=.type "tuple",data:=.seq #[]}
noncomputable def o248 (P:Params):Obj:=by exists ff "_rank" "_rank" a15 b15 s15
noncomputable def Nh (P:Params):Obj:=by exists co "_rank" 525 "_rank" 526 527 159 1 1 4 3 244 true 245 .none (R 246) (R 247) (R 248) 543 159 544
noncomputable def Ng (P:Params):Obj:=by exists fo "_rank" "_rank" a15 b15 s15 3 .none (R 243) "cpy313.statistics" 517 249
noncomputable def Nf (P:Params):Obj:={cls:=.type "tuple",data:=.seq #[]}
noncomputable def o252 (P:Params):Obj:={cls:=.none,data:=.fields #[]}
noncomputable def Nd (P:Params):Obj:={cls:=.type "tuple",data:=.seq #[S "data" 549,S "n" 550]}
noncomputable def Nc (P:Params):Obj:={cls:=.type "tuple",data:=.seq #[]}
noncomputable def o255 (P:Params):Obj:=by exists ff "median_low" "median_low" a16 b16 s16
noncomputable def Nb (P:Params):Obj:=by exists co "median_low" 546 "median_low" 547 548 175 1 0 0 3 251 true 252 .none (R 253) (R 254) (R 255) 551 175 552
noncomputable def Na (P:Params):Obj:=by exists fo "median_low" "median_low" a16 b16 s16 3 .none .none "cpy313.statistics" 517 256
noncomputable def NZ (P:Params):Obj:={cls:=.type "tuple",data:=.seq #[]}
noncomputable def o259 (P:Params):Obj:={cls:=.none,data:=.fields #[]}
noncomputable def NY (P:Params):Obj:={cls:=.type "tuple",data:=.seq #[S "data" 557,S "n" 558]}
noncomputable def NX (P:Params):Obj:={cls:=.type "tuple",data:=.seq #[]}
noncomputable def o262 (P:Params):Obj:=by exists ff "median_high" "median_high" a17 b17 s17
noncomputable def NW (P:Params):Obj:=by exists co "median_high" 554 "median_high" 555 556 184 1 0 0 3 258 true 259 .none (R 260) (R 261) (R 262) 559 184 560
noncomputable def NV (P:Params):Obj:=by exists fo "median_high" "median_high" a17 b17 s17 3 .none .none "cpy313.statistics" 517 263
noncomputable def NU (P:Params):Obj:={cls:=.type "dict",data:=.dict #[E P "n" 564 (I 4 562),E P "method" 565 (S "exclusive" 563)] 2}
noncomputable def NT (P:Params):Obj:={cls:=.type "tuple",data:=.seq #[]}
noncomputable def o267 (P:Params):Obj:={cls:=.none,data:=.fields #[]}
noncomputable def NS (P:Params):Obj:={cls:=.type "tuple",data:=.seq #[S "data" 569,S "n" 570,S "method" 571,S "ld" 572,S "m" 573,S "result" 574,S "i" 575,S "j" 576,S "delta" 577,S "interpolated" 578]}
noncomputable def NR (P:Params):Obj:={cls:=.type "tuple",data:=.seq #[]}
noncomputable def o270 (P:Params):Obj:=by exists ff "quantiles" "quantiles" a18 b18 s18
noncomputable def NQ (P:Params):Obj:=by exists co "quantiles" 566 "quantiles" 567 568 190 1 0 2 3 266 true 267 .none (R 268) (R 269) (R 270) 579 190 580
noncomputable def NP (P:Params):Obj:=by exists fo "quantiles" "quantiles" a18 b18 s18 3 .none (R 265) "cpy313.statistics" 517 271
noncomputable def NO (P:Params):Obj:={cls:=.type "tuple",data:=.seq #[]}
noncomputable def o274 (P:Params):Obj:={cls:=.none,data:=.fields #[]}
noncomputable def NN (P:Params):Obj:={cls:=.type "tuple",data:=.seq #[S "heap" 587,S "lastelt" 588,S "returnitem" 589]}
noncomputable def NM (P:Params):Obj:={cls:=.type "tuple",data:=.seq #[]}
noncomputable def o277 (P:Params):Obj:=by exists ff "heappop" "heappop" a20 b20 s20
noncomputable def NK (P:Params):Obj:=by exists co "heappop" 584 "heappop" 585 586 219 1 0 0 3 273 true 274 .none (R 275) (R 276) (R 277) 590 219 591
noncomputable def NJ (P:Params):Obj:=by exists fo "heappop" "heappop" a20 b20 s20 3 .none .none "cpy313.heapq" 582 278
noncomputable def NI (P:Params):Obj:={cls:=.type "tuple",data:=.seq #[]}
noncomputable def o281 (P:Params):Obj:={cls:=.none,data:=.fields #[]}
noncomputable def NH (P:Params):Obj:={cls:=.type "tuple",data:=.seq #[S "heap" 596,S "item" 597,S "returnitem" 598]}
noncomputable def NG (P:Params):Obj:={cls:=.type "tuple",data:=.seq #[]}
noncomputable def o284 (P:Params):Obj:=by exists ff "heapreplace" "heapreplace" a21 b21 s21
noncomputable def NF (P:Params):Obj:=by exists co "heapreplace" 593 "heapreplace" 594 595 227 2 0 0 3 280 true 281 .none (R 282) (R 283) (R 284) 599 227 600
noncomputable def NE (P:Params):Obj:=by exists fo "heapreplace" "heapreplace" a21 b21 s21 3 .none .none "cpy313.heapq" 582 285
noncomputable def ND (P:Params):Obj:={cls:=.type "tuple",data:=.seq #[]}
noncomputable def o288 (P:Params):Obj:={cls:=.none,data:=.fields #[]}
noncomputable def NB (P:Params):Obj:={cls:=.type "tuple",data:=.seq #[S "x" 605,S "n" 606,S "i" 607]}
noncomputable def NA (P:Params):Obj:={cls:=.type "tuple",data:=.seq #[]}
noncomputable def o291 (P:Params):Obj:=by exists ff "heapify" "heapify" a22 b22 s22
noncomputable def M9 (P:Params):Obj:=by exists co "heapify" 602 "heapify" 603 604 232 1 0 0 3 287 true 288 .none (R 289) (R 290) (R 291) 608 232 609
noncomputable def M8 (P:Params):Obj:=by exists fo "heapify" "heapify" a22 b22 s22 3 .none .none "cpy313.heapq" 582 292
noncomputable def M7 (P:Params):Obj:={cls:=.type "tuple",data:=.seq #[]}
noncomputable def o295 (P:Params):Obj:={cls:=.none,data:=.fields #[]}
noncomputable def M6 (P:Params):Obj:={cls:=.type "tuple",data:=.seq #[S "heap" 614,S "startpos" 615,S "pos" 616,S "newitem" 617,S "parentpos" 618,S "parent" 619]}
noncomputable def M5 (P:Params):Obj:={cls:=.type "tuple",data:=.seq #[]}
noncomputable def o298 (P:Params):Obj:=by exists ff "_siftdown" "_siftdown" a23 b23 s23
noncomputable def M4 (P:Params):Obj:=by exists co "_siftdown" 611 "_siftdown" 612 613 236 3 0 0 3 294 true 295 .none (R 296) (R 297) (R 298) 620 236 621
noncomputable def M3 (P:Params):Obj:=by exists fo "_siftdown" "_siftdown" a23 b23 s23 3 .none .none "cpy313.heapq" 582 299
noncomputable def M2 (P:Params):Obj:={cls:=.type "tuple",data:=.seq #[]}
noncomputable def o302 (P:Params):Obj:={cls:=.none,data:=.fields #[]}
noncomputable def M1 (P:Params):Obj:={cls:=.type "tuple",data:=.seq #[S "heap" 626,S "pos" 627,S "endpos" 628,S "startpos" 629,S "newitem" 630,S "childpos" 631,S "rightpos" 632]}
noncomputable def M0 (P:Params):Obj:={cls:=.type "tuple",data:=.seq #[]}
noncomputable def o305 (P:Params):Obj:=by exists ff "_siftup" "_siftup" a24 b24 s24
noncomputable def Mz (P:Params):Obj:=by exists co "_siftup" 623 "_siftup" 624 625 247 2 0 0 3 301 true 302 .none (R 303) (R 304) (R 305) 633 247 634
noncomputable def My (P:Params):Obj:=by exists fo "_siftup" "_siftup" a24 b24 s24 3 .none .none "cpy313.heapq" 582 306
noncomputable def Mx (P:Params):Obj:={cls:=.type "tuple",data:=.seq #[.none]}
noncomputable def Mw (P:Params):Obj:={cls:=.type "tuple",data:=.seq #[]}
noncomputable def o310 (P:Params):Obj:={cls:=.none,data:=.fields #[]}
noncomputable def o311 (P:Params):Obj:=by exists ff "nlargest" "nlargest" a25 b25 s25
noncomputable def Mv (P:Params):Obj:=by exists co "nlargest" 636 "nlargest" 637 638 261 3 0 0 3 309 true 310 .none .none .none (R 311) 639 261 640
noncomputable def Mu (P:Params):Obj:=by exists fo "nlargest" "nlargest" a25 b25 s25 3 (R 308) .none "cpy313.heapq" 582 312
noncomputable def Mt (P:Params):Obj:={cls:=.type "tuple",data:=.seq #[]}
noncomputable def o315 (P:Params):Obj:={cls:=.none,data:=.fields #[]}
noncomputable def Ms (P:Params):Obj:={cls:=.type "tuple",data:=.seq #[S "mode" 647]}
noncomputable def Mr (P:Params):Obj:={cls:=.type "tuple",data:=.seq #[]}
noncomputable def o318 (P:Params):Obj:=by exists ff "S_IFMT" "S_IFMT" a27 b27 s27
noncomputable def Mq (P:Params):Obj:=by exists co "S_IFMT" 644 "S_IFMT" 645 646 307 1 0 0 3 314 true 315 .none (R 316) (R 317) (R 318) 648 307 649
noncomputable def Mp (P:Params):Obj:=by exists fo "S_IFMT" "S_IFMT" a27 b27 s27 3 .none .none "cpy313.stat" 642 319
noncomputable def Mn (P:Params):Obj:={cls:=.type "tuple",data:=.seq #[I 40960 661,S "l" 689]}
noncomputable def Mm (P:Params):Obj:={cls:=.type "tuple",data:=.seq #[I 49152 663,S "s" 690]}
noncomputable def Ml (P:Params):Obj:={cls:=.type "tuple",data:=.seq #[I 32768 657,S "-" 691]}
noncomputable def Mk (P:Params):Obj:={cls:=.type "tuple",data:=.seq #[I 24576 655,S "b" 692]}
noncomputable def Mj (P:Params):Obj:={cls:=.type "tuple",data:=.seq #[I 16384 651,S "d" 693]}
noncomputable def Mh (P:Params):Obj:={cls:=.type "tuple",data:=.seq #[I 8192 653,S "c" 694]}
noncomputable def Mg (P:Params):Obj:={cls:=.type "tuple",data:=.seq #[I 4096 659,S "p" 695]}
noncomputable def Mf (P:Params):Obj:={cls:=.type "tuple",data:=.seq #[R 321,R 322,R 323,R 324,R 325,R 326,R 327]}
noncomputable def Me (P:Params):Obj:={cls:=.type "tuple",data:=.seq #[I 256 671,S "r" 696]}
noncomputable def Md (P:Params):Obj:={cls:=.type "tuple",data:=.seq #[R 329]}
noncomputable def Mc (P:Params):Obj:={cls:=.type "tuple",data:=.seq #[I 128 673,S "w" 697]}
noncomputable def Mb (P:Params):Obj:={cls:=.type "tuple",data:=.seq #[R 331]}
noncomputable def Ma (P:Params):Obj:={cls:=.type "tuple",data:=.seq #[I 2112 698,S "s" 699]}
noncomputable def MZ (P:Params):Obj:={cls:=.type "tuple",data:=.seq #[I 2048 665,S "S" 700]}
noncomputable def MY (P:Params):Obj:={cls:=.type "tuple",data:=.seq #[I 64 675,S "x" 701]}
noncomputable def MX (P:Params):Obj:={cls:=.type "tuple",data:=.seq #[R 333,R 334,R 335]}
noncomputable def MW (P:Params):Obj:={cls:=.type "tuple",data:=.seq #[I 32 677,S "r" 702]}
noncomputable def MU (P:Params):Obj:={cls:=.type "tuple",data:=.seq #[R 337]}
noncomputable def MT (P:Params):Obj:={cls:=.type "tuple",data:=.seq #[I 16 679,S "w" 703]}
noncomputable def MS (P:Params):Obj:={cls:=.type "tuple",data:=.seq #[R 339]}
noncomputable def MR (P:Params):Obj:={cls:=.type "tuple",data:=.seq #[I 1032 704,S "s" 705]}
noncomputable def MQ (P:Params):Obj:={cls:=.type "tuple",data:=.seq #[I 1024 667,S "S" 706]}
noncomputable def MP (P:Params):Obj:={cls:=.type "tuple",data:=.seq #[I 8 681,S "x" 707]}
noncomputable def MO (P:Params):Obj:={cls:=.type "tuple",data:=.seq #[R 341,R 342,R 343]}
noncomputable def MN (P:Params):Obj:={cls:=.type "tuple",data:=.seq #[I 4 683,S "r" 708]}
noncomputable def MM (P:Params):Obj:={cls:=.type "tuple",data:=.seq #[R 345]}
noncomputable def ML (P:Params):Obj:={cls:=.type "tuple",data:=.seq #[I 2 685,S "w" 709]}
noncomputable def MK (P:Params):Obj:={cls:=.type "tuple",data:=.seq #[R 347]}
noncomputable def MJ (P:Params):Obj:={cls:=.type "tuple",data:=.seq #[I 513 710,S "t" 711]}
noncomputable def MI (P:Params):Obj:={cls:=.type "tuple",data:=.seq #[I 512 669,S "T" 712]}
noncomputable def MH (P:Params):Obj:={cls:=.type "tuple",data:=.seq #[I 1 687,S "x" 713]}
noncomputable def MG (P:Params):Obj:={cls:=.type "tuple",data:=.seq #[R 349,R 350,R 351]}
noncomputable def MF (P:Params):Obj:={cls:=.type "tuple",data:=.seq #[R 328,R 330,R 332,R 336,R 338,R 340,R 344,R 346,R 348,R 352]}
noncomputable def ME (P:Params):Obj:={cls:=.type "tuple",data:=.seq #[]}
noncomputable def o355 (P:Params):Obj:={cls:=.none,data:=.fields #[]}
noncomputable def MD (P:Params):Obj:={cls:=.type "tuple",data:=.seq #[S "mode" 718,S "perm" 719,S "index" 720,S "table" 721,S "bit" 722,S "char" 723]}
noncomputable def MC (P:Params):Obj:={cls:=.type "tuple",data:=.seq #[]}
noncomputable def o358 (P:Params):Obj:=by exists ff "filemode" "filemode" a48 b48 s48
noncomputable def MB (P:Params):Obj:=by exists co "filemode" 715 "filemode" 716 717 329 1 0 0 3 354 true 355 .none (R 356) (R 357) (R 358) 724 329 725
noncomputable def MA (P:Params):Obj:=by exists fo "filemode" "filemode" a48 b48 s48 3 .none .none "cpy313.stat" 642 359
noncomputable def L9 (P:Params):Obj:={cls:=.type "tuple",data:=.seq #[]}
noncomputable def o362 (P:Params):Obj:={cls:=.none,data:=.fields #[]}
noncomputable def L8 (P:Params):Obj:={cls:=.type "tuple",data:=.seq #[S "x" 732]}
noncomputable def L7 (P:Params):Obj:={cls:=.type "tuple",data:=.seq #[]}
noncomputable def o365 (P:Params):Obj:=by exists ff "_law_number" "_law_number" a50 b50 s50
noncomputable def L6 (P:Params):Obj:=by exists co "_law_number" 729 "_law_number" 730 731 347 1 0 0 3 361 true 362 .none (R 363) (R 364) (R 365) 733 347 734
noncomputable def L5 (P:Params):Obj:=by exists fo "_law_number" "_law_number" a50 b50 s50 3 .none .none "law_il0022_01" 727 366
noncomputable def L4 (P:Params):Obj:={cls:=.type "tuple",data:=.seq #[]}
noncomputable def o369 (P:Params):Obj:={cls:=.none,data:=.fields #[]}
noncomputable def o370 (P:Params):Obj:=by exists ff "_law_walk" "_law_walk" a51 b51 s51
noncomputable def L3 (P:Params):Obj:=by exists co "_law_walk" 736 "_law_walk" 737 738 351 2 0 0 3 368 true 369 .none .none .none (R 370) 739 351 740
noncomputable def L2 (P:Params):Obj:=by exists fo "_law_walk" "_law_walk" a51 b51 s51 3 .none .none "law_il0022_01" 727 371
noncomputable def L1 (P:Params):Obj:={cls:=.type "tuple",data:=.seq #[]}
noncomputable def o374 (P:Params):Obj:={cls:=.none,data:=.fields #[]}
noncomputable def o375 (P:Params):Obj:=by exists ff "_law_middles" "_law_middles" a52 b52 s52
noncomputable def L0 (P:Params):Obj:=by exists co "_law_middles" 742 "_law_middles" 743 744 365 3 0 0 3 373 true 374 .none .none .none (R 375) 745 365 746
noncomputable def Lz (P:Params):Obj:=by exists fo "_law_middles" "_law_middles" a52 b52 s52 3 .none .none "law_il0022_01" 727 376
noncomputable def Ly (P:Params):Obj:={cls:=.type "tuple",data:=.seq #[]}
noncomputable def o379 (P:Params):Obj:={cls:=.none,data:=.fields #[]}
noncomputable def Lw (P:Params):Obj:={cls:=.type "tuple",data:=.seq #[S "pairs" 751,S "refused" 752,S "ask" 753]}
noncomputable def Lv (P:Params):Obj:={cls:=.type "tuple",data:=.seq #[]}
noncomputable def o382 (P:Params):Obj:=by exists ff "_law_refused" "_law_refused" a53 b53 s53
noncomputable def Lu (P:Params):Obj:=by exists co "_law_refused" 748 "_law_refused" 749 750 375 1 0 0 3 378 true 379 .none (R 380) (R 381) (R 382) 754 375 755
noncomputable def Lr (P:Params):Obj:=by exists fo "_law_refused" "_law_refused" a53 b53 s53 3 .none .none "law_il0022_01" 727 383
noncomputable def Lq (P:Params):Obj:={cls:=.type "tuple",data:=.seq #[]}
noncomputable def o386 (P:Params):Obj:={cls:=.none,data:=.fields #[]}
noncomputable def Lp (P:Params):Obj:={cls:=.type "tuple",data:=.seq #[S "row" 760,S "rising" 761,S "middle" 762]}
noncomputable def Lo (P:Params):Obj:={cls:=.type "tuple",data:=.seq #[]}
noncomputable def o389 (P:Params):Obj:=by exists ff "_law_fifth" "_law_fifth" a54 b54 s54
noncomputable def Ln (P:Params):Obj:=by exists co "_law_fifth" 757 "_law_fifth" 758 759 383 1 0 0 3 385 true 386 .none (R 387) (R 388) (R 389) 763 383 764
noncomputable def Lm (P:Params):Obj:=by exists fo "_law_fifth" "_law_fifth" a54 b54 s54 3 .none .none "law_il0022_01" 727 390
noncomputable def Ll (P:Params):Obj:={cls:=.type "tuple",data:=.seq #[]}
noncomputable def o393 (P:Params):Obj:={cls:=.none,data:=.fields #[]}
noncomputable def o394 (P:Params):Obj:=by exists ff "_law_ranked" "_law_ranked" a55 b55 s55
noncomputable def Lk (P:Params):Obj:=by exists co "_law_ranked" 766 "_law_ranked" 767 768 391 2 0 0 3 392 true 393 .none .none .none (R 394) 769 391 770
noncomputable def Lj (P:Params):Obj:=by exists fo "_law_ranked" "_law_ranked" a55 b55 s55 3 .none .none "law_il0022_01" 727 395
noncomputable def Li (P:Params):Obj:={cls:=.type "tuple",data:=.seq #[]}
noncomputable def o398 (P:Params):Obj:={cls:=.none,data:=.fields #[]}
noncomputable def o399 (P:Params):Obj:=by exists ff "law" "law" a56 b56 s56
noncomputable def Lh (P:Params):Obj:=by exists co "law" 772 "law" 773 774 404 1 0 0 3 397 true 398 .none .none .none (R 399) 775 404 776
noncomputable def Lg (P:Params):Obj:=by exists fo "law" "law" a56 b56 s56 3 .none .none "law_il0022_01" 727 400
noncomputable def es3 (P:Params):List DictEntry:= [E P "__doc__" 166 .none,E P "__package__" 167 .none,E P "__loader__" 168 (.builtin "__main__.__loader__#opaque"),E P "__spec__" 169 .none,E P "__annotations__" 170 (R 6),E P "__builtins__" 171 (R 4),E P "__file__" 173 (S "/claim/cut.py" 172),E P "__cached__" 174 .none,E P "_wall" 193 (R 21),E P "StatisticsError" 213 (R 31),E P "_MAXSIZE" 217 (I 9223372036854775807 216),E P "_is_int" 225 (R 41),E P "_pull" 232 (R 48),E P "_same" 240 (R 55),E P "groupby" 331 (R 96),E P "_grouper" 385 (R 141),E P "_count_kind" 393 (R 153),E P "count" 458 (R 194),E P "itemgetter" 516 (R 239),E P "_rank" 545 (R 250),E P "median_low" 553 (R 257),E P "median_high" 561 (R 264),E P "quantiles" 581 (R 272),E P "heappop" 592 (R 279),E P "heapreplace" 601 (R 286),E P "heapify" 610 (R 293),E P "_siftdown" 622 (R 300),E P "_siftup" 635 (R 307),E P "nlargest" 641 (R 313),E P "S_IFMT" 650 (R 320),E P "S_IFDIR" 652 (I 16384 651),E P "S_IFCHR" 654 (I 8192 653),E P "S_IFBLK" 656 (I 24576 655),E P "S_IFREG" 658 (I 32768 657),E P "S_IFIFO" 660 (I 4096 659),E P "S_IFLNK" 662 (I 40960 661),E P "S_IFSOCK" 664 (I 49152 663),E P "S_ISUID" 666 (I 2048 665),E P "S_ISGID" 668 (I 1024 667),E P "S_ISVTX" 670 (I 512 669),E P "S_IRUSR" 672 (I 256 671),E P "S_IWUSR" 674 (I 128 673),E P "S_IXUSR" 676 (I 64 675),E P "S_IRGRP" 678 (I 32 677),E P "S_IWGRP" 680 (I 16 679),E P "S_IXGRP" 682 (I 8 681),E P "S_IROTH" 684 (I 4 683),E P "S_IWOTH" 686 (I 2 685),E P "S_IXOTH" 688 (I 1 687),E P "_filemode_table" 714 (R 353),E P "filemode" 726 (R 360),E P "_law_number" 735 (R 367),E P "_law_walk" 741 (R 372),E P "_law_middles" 747 (R 377),E P "_law_refused" 756 (R 384),E P "_law_fifth" 765 (R 391),E P "_law_ranked" 771 (R 396),E P "law" 777 (R 401)]
noncomputable def fs12:List Value:= [I 1 0,I 0 0,R 20,I 5 0,I 0 0,R 27,I 9 0,I 0 0,R 40,I 12 0,I 0 0,R 47,I 17 0,I 0 0,R 54,I 23 0,I 0 0,R 61,I 67 0,I 0 0,R 114,I 96 0,I 0 0,R 152,I 105 0,I 0 0,R 159,I 133 0,I 0 0,R 205,I 159 0,I 0 0,R 249,I 175 0,I 0 0,R 256,I 184 0,I 0 0,R 263,I 190 0,I 0 0,R 271,I 219 0,I 0 0,R 278,I 227 0,I 0 0,R 285,I 232 0,I 0 0,R 292,I 236 0,I 0 0,R 299,I 247 0,I 0 0,R 306,I 261 0,I 0 0,R 312,I 307 0,I 0 0,R 319,I 329 0,I 0 0,R 359,I 347 0,I 0 0,R 366,I 351 0,I 0 0,R 371,I 365 0,I 0 0,R 376,I 375 0,I 0 0,R 383,I 383 0,I 0 0,R 390,I 391 0,I 0 0,R 395,I 404 0,I 0 0,R 400]
noncomputable def o3k (P:Params)(x:String)(t k:Nat):Obj:={cls:=.type "dict",data:=.dict (E P "__name__" 165 (S x t)::(es3 P).take k).toArray (k+1)}
noncomputable def LA (k:Nat):Obj:={cls:=.none,data:=.fields (fs12.take k).toArray}
noncomputable def heap_39 (P:Params):Frag:=(nat_lit 2,boot_o_2 P)::(nat_lit 3,o3k P "law_il0022_01" 727 58)::(nat_lit 15,o15 P)::(nat_lit 17,o17 P)::(nat_lit 18,o18 P)::(nat_lit 20,o20 P)::(nat_lit 21,o21 P)::(nat_lit 22,o22 P)::(nat_lit 29,o29 P)::(nat_lit 30,o30 P)::(nat_lit 31,o31 P)::(nat_lit 32,o32 P)::(nat_lit 35,o35 P)::(nat_lit 37,o37 P)::(nat_lit 38,o38 P)::(nat_lit 40,o40 P)::(nat_lit 41,o41 P)::(nat_lit 42,o42 P)::(nat_lit 44,o44 P)::(nat_lit 45,o45 P)::(nat_lit 47,o47 P)::(nat_lit 48,o48 P)::(nat_lit 49,o49 P)::(nat_lit 51,o51 P)::(nat_lit 52,o52 P)::(nat_lit 54,o54 P)::(nat_lit 55,o55 P)::(nat_lit 63,o63 P)::(nat_lit 64,o64 P)::(nat_lit 65,o65 P)::(nat_lit 67,o67 P)::(nat_lit 68,o68 P)::(nat_lit 70,o70 P)::(nat_lit 71,o71 P)::(nat_lit 72,o72 P)::(nat_lit 74,o74 P)::(nat_lit 75,o75 P)::(nat_lit 77,o77 P)::(nat_lit 78,o78 P)::(nat_lit 79,o79 P)::(nat_lit 81,o81 P)::(nat_lit 82,o82 P)::(nat_lit 84,o84 P)::(nat_lit 85,o85 P)::(nat_lit 86,o86 P)::(nat_lit 88,o88 P)::(nat_lit 89,o89 P)::(nat_lit 91,o91 P)::(nat_lit 92,o92 P)::(nat_lit 93,o93 P)::(nat_lit 95,o95 P)::(nat_lit 96,o96 P)::(nat_lit 97,o97 P)::(nat_lit 98,o98 P)::(nat_lit 99,o99 P)::(nat_lit 100,PN P)::(nat_lit 101,PM P)::(nat_lit 102,PK P)::(nat_lit 103,PJ P)::(nat_lit 104,PI P)::(nat_lit 105,PH P)::(nat_lit 106,PG P)::(nat_lit 116,PF P)::(nat_lit 117,PE P)::(nat_lit 119,PD P)::(nat_lit 120,PC P)::(nat_lit 122,PB P)::(nat_lit 123,PA P)::(nat_lit 124,O9 P)::(nat_lit 126,O8 P)::(nat_lit 127,O7 P)::(nat_lit 129,O6 P)::(nat_lit 130,O5 P)::(nat_lit 131,O4 P)::(nat_lit 133,O3 P)::(nat_lit 134,O2 P)::(nat_lit 136,O1 P)::(nat_lit 137,O0 P)::(nat_lit 138,Oz P)::(nat_lit 140,Oy P)::(nat_lit 141,Ox P)::(nat_lit 142,Ow P)::(nat_lit 143,Ov P)::(nat_lit 144,Ou P)::(nat_lit 147,Ot P)::(nat_lit 149,Os P)::(nat_lit 150,Oq P)::(nat_lit 152,Op P)::(nat_lit 153,Oo P)::(nat_lit 161,On P)::(nat_lit 162,Om P)::(nat_lit 163,Ol P)::(nat_lit 165,Ok P)::(nat_lit 166,Oj P)::(nat_lit 168,Oi P)::(nat_lit 169,Oh P)::(nat_lit 170,Og P)::(nat_lit 172,Of P)::(nat_lit 173,Oe P)::(nat_lit 175,Od P)::(nat_lit 176,Oc P)::(nat_lit 177,Ob P)::(nat_lit 179,Oa P)::(nat_lit 180,OZ P)::(nat_lit 182,OY P)::(nat_lit 183,OX P)::(nat_lit 184,OW P)::(nat_lit 186,OV P)::(nat_lit 187,OU P)::(nat_lit 189,OT P)::(nat_lit 190,OS P)::(nat_lit 191,OR P)::(nat_lit 193,OQ P)::(nat_lit 194,OP P)::(nat_lit 195,OO P)::(nat_lit 196,ON P)::(nat_lit 197,OM P)::(nat_lit 207,OL P)::(nat_lit 208,OK P)::(nat_lit 210,OJ P)::(nat_lit 211,OI P)::(nat_lit 213,OH P)::(nat_lit 214,OG P)::(nat_lit 215,OF P)::(nat_lit 217,OE P)::(nat_lit 218,OD P)::(nat_lit 220,OC P)::(nat_lit 221,OB P)::(nat_lit 222,OA P)::(nat_lit 224,N0 P)::(nat_lit 225,Nz P)::(nat_lit 227,Ny P)::(nat_lit 228,Nx P)::(nat_lit 229,Nw P)::(nat_lit 231,Nv P)::(nat_lit 232,Nu P)::(nat_lit 234,Nt P)::(nat_lit 235,Nr P)::(nat_lit 236,Nq P)::(nat_lit 238,Np P)::(nat_lit 239,No P)::(nat_lit 240,Nn P)::(nat_lit 243,Nm P)::(nat_lit 244,Nk P)::(nat_lit 246,Nj P)::(nat_lit 247,Ni P)::(nat_lit 249,Nh P)::(nat_lit 250,Ng P)::(nat_lit 251,Nf P)::(nat_lit 253,Nd P)::(nat_lit 254,Nc P)::(nat_lit 256,Nb P)::(nat_lit 257,Na P)::(nat_lit 258,NZ P)::(nat_lit 260,NY P)::(nat_lit 261,NX P)::(nat_lit 263,NW P)::(nat_lit 264,NV P)::(nat_lit 265,NU P)::(nat_lit 266,NT P)::(nat_lit 268,NS P)::(nat_lit 269,NR P)::(nat_lit 271,NQ P)::(nat_lit 272,NP P)::(nat_lit 273,NO P)::(nat_lit 275,NN P)::(nat_lit 276,NM P)::(nat_lit 278,NK P)::(nat_lit 279,NJ P)::(nat_lit 280,NI P)::(nat_lit 282,NH P)::(nat_lit 283,NG P)::(nat_lit 285,NF P)::(nat_lit 286,NE P)::(nat_lit 287,ND P)::(nat_lit 289,NB P)::(nat_lit 290,NA P)::(nat_lit 292,M9 P)::(nat_lit 293,M8 P)::(nat_lit 294,M7 P)::(nat_lit 296,M6 P)::(nat_lit 297,M5 P)::(nat_lit 299,M4 P)::(nat_lit 300,M3 P)::(nat_lit 301,M2 P)::(nat_lit 303,M1 P)::(nat_lit 304,M0 P)::(nat_lit 306,Mz P)::(nat_lit 307,My P)::(nat_lit 308,Mx P)::(nat_lit 309,Mw P)::(nat_lit 312,Mv P)::(nat_lit 313,Mu P)::(nat_lit 314,Mt P)::(nat_lit 316,Ms P)::(nat_lit 317,Mr P)::(nat_lit 319,Mq P)::(nat_lit 320,Mp P)::(nat_lit 321,Mn P)::(nat_lit 322,Mm P)::(nat_lit 323,Ml P)::(nat_lit 324,Mk P)::(nat_lit 325,Mj P)::(nat_lit 326,Mh P)::(nat_lit 327,Mg P)::(nat_lit 328,Mf P)::(nat_lit 329,Me P)::(nat_lit 330,Md P)::(nat_lit 331,Mc P)::(nat_lit 332,Mb P)::(nat_lit 333,Ma P)::(nat_lit 334,MZ P)::(nat_lit 335,MY P)::(nat_lit 336,MX P)::(nat_lit 337,MW P)::(nat_lit 338,MU P)::(nat_lit 339,MT P)::(nat_lit 340,MS P)::(nat_lit 341,MR P)::(nat_lit 342,MQ P)::(nat_lit 343,MP P)::(nat_lit 344,MO P)::(nat_lit 345,MN P)::(nat_lit 346,MM P)::(nat_lit 347,ML P)::(nat_lit 348,MK P)::(nat_lit 349,MJ P)::(nat_lit 350,MI P)::(nat_lit 351,MH P)::(nat_lit 352,MG P)::(nat_lit 353,MF P)::(nat_lit 354,ME P)::(nat_lit 356,MD P)::(nat_lit 357,MC P)::(nat_lit 359,MB P)::(nat_lit 360,MA P)::(nat_lit 361,L9 P)::(nat_lit 363,L8 P)::(nat_lit 364,L7 P)::(nat_lit 366,L6 P)::(nat_lit 367,L5 P)::(nat_lit 368,L4 P)::(nat_lit 371,L3 P)::(nat_lit 372,L2 P)::(nat_lit 373,L1 P)::(nat_lit 376,L0 P)::(nat_lit 377,Lz P)::(nat_lit 378,Ly P)::(nat_lit 380,Lw P)::(nat_lit 381,Lv P)::(nat_lit 383,Lu P)::(nat_lit 384,Lr P)::(nat_lit 385,Lq P)::(nat_lit 387,Lp P)::(nat_lit 388,Lo P)::(nat_lit 390,Ln P)::(nat_lit 391,Lm P)::(nat_lit 392,Ll P)::(nat_lit 395,Lk P)::(nat_lit 396,Lj P)::(nat_lit 397,Li P)::(nat_lit 400,Lh P)::(nat_lit 401,Lg P):: []
noncomputable def view_39:Program:={pw with main:={pw.main with body:= [sN 0,sN 2,sN 4,sN 5,sN 6,sN 7,sN 8,sN 9,sN 10,sN 11,sN 13,sN 16,sN 17,sN 20,sN 21,sN 22,sN 23,sN 24,sN 27,sN 28,sN 29,sN 30,sN 31,sN 32,sN 33,sN 34,sN 35,sN 36,sN 37,sN 38,sN 39,sN 40,sN 41,sN 42,sN 43,sN 44,sN 45,sN 46,sN 47,sN 48,sN 50,sN 51,sN 52,sN 53,sN 54,sN 55,sN 56]}}
noncomputable def objs (x y:Obj)(P:Params):List Obj:=boot_o_0 P::boot_o_1 P::boot_o_2 P::x::boot_o_4 P::boot_o_5 P::boot_o_6 P::boot_o_7 P::boot_o_8 P::boot_o_9 P::boot_o_10 P::o11 P::y::o13 P::o14 P::o15 P::o16 P::o17 P::o18 P::o19 P::o20 P::o21 P::o22 P::o23 P::o24 P::o25 P::o26 P::o27 P::o28 P::o29 P::o30 P::o31 P::o32 P::o33 P::o34 P::o35 P::o36 P::o37 P::o38 P::o39 P::o40 P::o41 P::o42 P::o43 P::o44 P::o45 P::o46 P::o47 P::o48 P::o49 P::o50 P::o51 P::o52 P::o53 P::o54 P::o55 P::o56 P::o57 P::o58 P::o59 P::o60 P::o61 P::o62 P::o63 P::o64 P::o65 P::o66 P::o67 P::o68 P::o69 P::o70 P::o71 P::o72 P::o73 P::o74 P::o75 P::o76 P::o77 P::o78 P::o79 P::o80 P::o81 P::o82 P::o83 P::o84 P::o85 P::o86 P::o87 P::o88 P::o89 P::o90 P::o91 P::o92 P::o93 P::o94 P::o95 P::o96 P::o97 P::o98 P::o99 P::PN P::PM P::PK P::PJ P::PI P::PH P::PG P::o107 P::o108 P::o109 P::o110 P::o111 P::o112 P::o113 P::o114 P::o115 P::PF P::PE P::o118 P::PD P::PC P::o121 P::PB P::PA P::O9 P::o125 P::O8 P::O7 P::o128 P::O6 P::O5 P::O4 P::o132 P::O3 P::O2 P::o135 P::O1 P::O0 P::Oz P::o139 P::Oy P::Ox P::Ow P::Ov P::Ou P::o145 P::o146 P::Ot P::o148 P::Os P::Oq P::o151 P::Op P::Oo P::o154 P::o155 P::o156 P::o157 P::o158 P::o159 P::o160 P::On P::Om P::Ol P::o164 P::Ok P::Oj P::o167 P::Oi P::Oh P::Og P::o171 P::Of P::Oe P::o174 P::Od P::Oc P::Ob P::o178 P::Oa P::OZ P::o181 P::OY P::OX P::OW P::o185 P::OV P::OU P::o188 P::OT P::OS P::OR P::o192 P::OQ P::OP P::OO P::ON P::OM P::o198 P::o199 P::o200 P::o201 P::o202 P::o203 P::o204 P::o205 P::o206 P::OL P::OK P::o209 P::OJ P::OI P::o212 P::OH P::OG P::OF P::o216 P::OE P::OD P::o219 P::OC P::OB P::OA P::o223 P::N0 P::Nz P::o226 P::Ny P::Nx P::Nw P::o230 P::Nv P::Nu P::o233 P::Nt P::Nr P::Nq P::o237 P::Np P::No P::Nn P::o241 P::o242 P::Nm P::Nk P::o245 P::Nj P::Ni P::o248 P::Nh P::Ng P::Nf P::o252 P::Nd P::Nc P::o255 P::Nb P::Na P::NZ P::o259 P::NY P::NX P::o262 P::NW P::NV P::NU P::NT P::o267 P::NS P::NR P::o270 P::NQ P::NP P::NO P::o274 P::NN P::NM P::o277 P::NK P::NJ P::NI P::o281 P::NH P::NG P::o284 P::NF P::NE P::ND P::o288 P::NB P::NA P::o291 P::M9 P::M8 P::M7 P::o295 P::M6 P::M5 P::o298 P::M4 P::M3 P::M2 P::o302 P::M1 P::M0 P::o305 P::Mz P::My P::Mx P::Mw P::o310 P::o311 P::Mv P::Mu P::Mt P::o315 P::Ms P::Mr P::o318 P::Mq P::Mp P::Mn P::Mm P::Ml P::Mk P::Mj P::Mh P::Mg P::Mf P::Me P::Md P::Mc P::Mb P::Ma P::MZ P::MY P::MX P::MW P::MU P::MT P::MS P::MR P::MQ P::MP P::MO P::MN P::MM P::ML P::MK P::MJ P::MI P::MH P::MG P::MF P::ME P::o355 P::MD P::MC P::o358 P::MB P::MA P::L9 P::o362 P::L8 P::L7 P::o365 P::L6 P::L5 P::L4 P::o369 P::o370 P::L3 P::L2 P::L1 P::o374 P::o375 P::L0 P::Lz P::Ly P::o379 P::Lw P::Lv P::o382 P::Lu P::Lr P::Lq P::o386 P::Lp P::Lo P::o389 P::Ln P::Lm P::Ll P::o393 P::o394 P::Lk P::Lj P::Li P::o398 P::o399 P::Lh P::Lg P:: []
noncomputable def evs {α:Type}:List α→List α
 |a::_::l=>a::evs l
 |l=>l
noncomputable def bt:Nat→List Obj→BT
 |n+1,o::l=>.node o (bt n (evs l)) (bt n (evs l.tail))
 |_,_=>.nil
noncomputable def tr (n:Nat)(x:String)(t k m:Nat)(P:Params):BT:=bt 12 ((objs (o3k P x t k) (LA m) P).take n)
noncomputable def st (n:Nat)(x:String)(t k m q:Nat)(w:World)(os:OsState):SharedT:={tree:=tr n x t k m w.params,n:=n,life:={},gens:= #[],drawn:={},toks:=q,os:=os}
noncomputable abbrev env:Env:={scope:=pw.main.scope,locals:=mainNs,globals:=mainNs,cells:= [],code:=R 13,frame:=some 14}
noncomputable abbrev cE:Code:=.body (behindTheImports pw) env
noncomputable abbrev seg (w:World)(n:Nat)(s:SharedT)(l:List Stmt)(p:Pos):=segRunT treeTable pw w 11 (some (R 6)) 1 n s (piecesOf l env cE p [topFrame default])
noncomputable abbrev H0 (w:World):Heap:=⟨#[boot_o_0 w.params,boot_o_1 w.params,boot_o_2 w.params,o3k w.params "__main__" 164 8,boot_o_4 w.params,boot_o_5 w.params,boot_o_6 w.params,boot_o_7 w.params,boot_o_8 w.params,boot_o_9 w.params,boot_o_10 w.params,o11 w.params,LA 0,o13 w.params,o14 w.params],{}⟩
noncomputable def H1 (P:Params):Heap:=⟨(objs (o3k P "law_il0022_01" 727 58) (LA 87) P).toArray,{}⟩
noncomputable abbrev l0:List Stmt:= [sN 0,sN 1,sN 2,sN 3,sN 4,sN 5,sN 6,sN 7]
theorem p0:∀w:World,(fun os=>seg w 332 (st 15 "__main__" 164 8 0 187 w os) l0 default)=fun os=>some (.next,(st 56 "itertools" 214 14 15 241 w os),cE,⟨17,0,22,16⟩):=by
 intro w
 kernel_rfl
noncomputable abbrev l1:List Stmt:= [sN 8]
theorem p1:∀w:World,(fun os=>seg w 440 (st 56 "itertools" 214 14 15 241 w os) l1 ⟨17,0,22,16⟩)=fun os=>some (.next,(st 109 "itertools" 214 15 18 332 w os),cE,⟨23,0,66,39⟩):=by
 intro w
 kernel_rfl
noncomputable abbrev l2:List Stmt:= [sN 9,sN 10]
theorem p2:∀w:World,(fun os=>seg w 359 (st 109 "itertools" 214 15 18 332 w os) l2 ⟨23,0,66,39⟩)=fun os=>some (.next,(st 154 "itertools" 214 17 24 394 w os),cE,⟨96,0,104,12⟩):=by
 intro w
 kernel_rfl
noncomputable abbrev l3:List Stmt:= [sN 11,sN 12]
theorem p3:∀w:World,(fun os=>seg w 374 (st 154 "itertools" 214 17 24 394 w os) l3 ⟨96,0,104,12⟩)=fun os=>some (.next,(st 200 "operator" 459 18 27 461 w os),cE,⟨132,0,132,8⟩):=by
 intro w
 kernel_rfl
noncomputable abbrev l4:List Stmt:= [sN 13,sN 14]
theorem p4:∀w:World,(fun os=>seg w 350 (st 200 "operator" 459 18 27 461 w os) l4 ⟨132,0,132,8⟩)=fun os=>some (.next,(st 243 "cpy313.statistics" 517 19 30 519 w os),cE,⟨158,0,158,8⟩):=by
 intro w
 kernel_rfl
noncomputable abbrev l5:List Stmt:= [sN 15,sN 16,sN 17,sN 18,sN 19,sN 20,sN 21,sN 22,sN 23,sN 24,sN 25,sN 26]
theorem p5:∀w:World,(fun os=>seg w 379 (st 243 "cpy313.statistics" 517 19 30 519 w os) l5 ⟨158,0,158,8⟩)=fun os=>some (.next,(st 314 "cpy313.stat" 642 29 60 644 w os),cE,⟨306,0,306,8⟩):=by
 intro w
 kernel_rfl
noncomputable abbrev l6:List Stmt:= [sN 27,sN 28,sN 29,sN 30,sN 31,sN 32,sN 33,sN 34,sN 35,sN 36,sN 37,sN 38,sN 39,sN 40,sN 41,sN 42,sN 43,sN 44,sN 45,sN 46,sN 47,sN 48]
theorem p6:∀w:World,(fun os=>seg w 396 (st 314 "cpy313.stat" 642 29 60 644 w os) l6 ⟨306,0,306,8⟩)=fun os=>some (.next,(st 361 "cpy313.stat" 642 51 66 727 w os),cE,⟨329,0,345,24⟩):=by
 intro w
 kernel_rfl
noncomputable abbrev l7:List Stmt:= [sN 49,sN 50,sN 51,sN 52,sN 53,sN 54,sN 55,sN 56]
theorem p7:∀w:World,(fun os=>seg w 205 (st 361 "cpy313.stat" 642 51 66 727 w os) l7 ⟨329,0,345,24⟩)=fun os=>some (.next,(st 402 "law_il0022_01" 727 58 87 778 w os),cE,⟨404,0,425,15⟩):=by
 intro w
 kernel_rfl
noncomputable abbrev Tu:=WData.tuple
noncomputable abbrev In:=WData.int
noncomputable abbrev St (x:Array Nat):WData:=.str ⟨x⟩
noncomputable def lvT:List (Str×WData):= [(Str.ofString "_filemode_table",Tu [Tu [Tu [In 40960,St #[108]],Tu [In 49152,St #[115]],Tu [In 32768,St #[45]],Tu [In 24576,St #[98]],Tu [In 16384,St #[100]],Tu [In 8192,St #[99]],Tu [In 4096,St #[112]]],Tu [Tu [In 256,St #[114]]],Tu [Tu [In 128,St #[119]]],Tu [Tu [In 2112,St #[115]],Tu [In 2048,St #[83]],Tu [In 64,St #[120]]],Tu [Tu [In 32,St #[114]]],Tu [Tu [In 16,St #[119]]],Tu [Tu [In 1032,St #[115]],Tu [In 1024,St #[83]],Tu [In 8,St #[120]]],Tu [Tu [In 4,St #[114]]],Tu [Tu [In 2,St #[119]]],Tu [Tu [In 513,St #[116]],Tu [In 512,St #[84]],Tu [In 1,St #[120]]]])]
noncomputable def looseT:List Str:= [Str.ofString "groupby",Str.ofString "_grouper",Str.ofString "count",Str.ofString "itemgetter",Str.ofString "_rank",Str.ofString "quantiles",Str.ofString "nlargest",Str.ofString "_filemode_table"]
noncomputable abbrev asT:List Addr:=nat_lit 2::nat_lit 3::nat_lit 15::nat_lit 17::nat_lit 18::nat_lit 20::nat_lit 21::nat_lit 22::nat_lit 29::nat_lit 30::nat_lit 31::nat_lit 32::nat_lit 35::nat_lit 37::nat_lit 38::nat_lit 40::nat_lit 41::nat_lit 42::nat_lit 44::nat_lit 45::nat_lit 47::nat_lit 48::nat_lit 49::nat_lit 51::nat_lit 52::nat_lit 54::nat_lit 55::nat_lit 63::nat_lit 64::nat_lit 65::nat_lit 67::nat_lit 68::nat_lit 70::nat_lit 71::nat_lit 72::nat_lit 74::nat_lit 75::nat_lit 77::nat_lit 78::nat_lit 79::nat_lit 81::nat_lit 82::nat_lit 84::nat_lit 85::nat_lit 86::nat_lit 88::nat_lit 89::nat_lit 91::nat_lit 92::nat_lit 93::nat_lit 95::nat_lit 96::nat_lit 97::nat_lit 98::nat_lit 99::nat_lit 100::nat_lit 101::nat_lit 102::nat_lit 103::nat_lit 104::nat_lit 105::nat_lit 106::nat_lit 116::nat_lit 117::nat_lit 119::nat_lit 120::nat_lit 122::nat_lit 123::nat_lit 124::nat_lit 126::nat_lit 127::nat_lit 129::nat_lit 130::nat_lit 131::nat_lit 133::nat_lit 134::nat_lit 136::nat_lit 137::nat_lit 138::nat_lit 140::nat_lit 141::nat_lit 142::nat_lit 143::nat_lit 144::nat_lit 147::nat_lit 149::nat_lit 150::nat_lit 152::nat_lit 153::nat_lit 161::nat_lit 162::nat_lit 163::nat_lit 165::nat_lit 166::nat_lit 168::nat_lit 169::nat_lit 170::nat_lit 172::nat_lit 173::nat_lit 175::nat_lit 176::nat_lit 177::nat_lit 179::nat_lit 180::nat_lit 182::nat_lit 183::nat_lit 184::nat_lit 186::nat_lit 187::nat_lit 189::nat_lit 190::nat_lit 191::nat_lit 193::nat_lit 194::nat_lit 195::nat_lit 196::nat_lit 197::nat_lit 207::nat_lit 208::nat_lit 210::nat_lit 211::nat_lit 213::nat_lit 214::nat_lit 215::nat_lit 217::nat_lit 218::nat_lit 220::nat_lit 221::nat_lit 222::nat_lit 224::nat_lit 225::nat_lit 227::nat_lit 228::nat_lit 229::nat_lit 231::nat_lit 232::nat_lit 234::nat_lit 235::nat_lit 236::nat_lit 238::nat_lit 239::nat_lit 240::nat_lit 243::nat_lit 244::nat_lit 246::nat_lit 247::nat_lit 249::nat_lit 250::nat_lit 251::nat_lit 253::nat_lit 254::nat_lit 256::nat_lit 257::nat_lit 258::nat_lit 260::nat_lit 261::nat_lit 263::nat_lit 264::nat_lit 265::nat_lit 266::nat_lit 268::nat_lit 269::nat_lit 271::nat_lit 272::nat_lit 273::nat_lit 275::nat_lit 276::nat_lit 278::nat_lit 279::nat_lit 280::nat_lit 282::nat_lit 283::nat_lit 285::nat_lit 286::nat_lit 287::nat_lit 289::nat_lit 290::nat_lit 292::nat_lit 293::nat_lit 294::nat_lit 296::nat_lit 297::nat_lit 299::nat_lit 300::nat_lit 301::nat_lit 303::nat_lit 304::nat_lit 306::nat_lit 307::nat_lit 308::nat_lit 309::nat_lit 312::nat_lit 313::nat_lit 314::nat_lit 316::nat_lit 317::nat_lit 319::nat_lit 320::nat_lit 321::nat_lit 322::nat_lit 323::nat_lit 324::nat_lit 325::nat_lit 326::nat_lit 327::nat_lit 328::nat_lit 329::nat_lit 330::nat_lit 331::nat_lit 332::nat_lit 333::nat_lit 334::nat_lit 335::nat_lit 336::nat_lit 337::nat_lit 338::nat_lit 339::nat_lit 340::nat_lit 341::nat_lit 342::nat_lit 343::nat_lit 344::nat_lit 345::nat_lit 346::nat_lit 347::nat_lit 348::nat_lit 349::nat_lit 350::nat_lit 351::nat_lit 352::nat_lit 353::nat_lit 354::nat_lit 356::nat_lit 357::nat_lit 359::nat_lit 360::nat_lit 361::nat_lit 363::nat_lit 364::nat_lit 366::nat_lit 367::nat_lit 368::nat_lit 371::nat_lit 372::nat_lit 373::nat_lit 376::nat_lit 377::nat_lit 378::nat_lit 380::nat_lit 381::nat_lit 383::nat_lit 384::nat_lit 385::nat_lit 387::nat_lit 388::nat_lit 390::nat_lit 391::nat_lit 392::nat_lit 395::nat_lit 396::nat_lit 397::nat_lit 400::nat_lit 401:: []
theorem pre:∀w:World,(fun os=>topGo treeTable pw w 11 (some (R 6)) 12 ⟨boot_heap w.params,#[],boot_drawn,boot_toks,os⟩ (topStub pw))=fun os=>some (⟨H0 w,#[],{},187,os⟩,⟨denote treeTable cE,cE,default,[topFrame default]⟩):=by
 intro w
 kernel_rfl
theorem blk:∀w:World,(fun os=>segRun treeTable pw w 11 (some (R 6)) 1 1 ⟨H0 w,#[],{},187,os⟩ (blockOf (behindTheImports pw) env cE default [topFrame default]))=fun os=>some (.next,(st 15 "__main__" 164 8 0 187 w os).abs,cE,default):=by
 intro w
 kernel_rfl
theorem fin:∀w:World,(fun os=>topRun treeTable pw w 11 (some (R 6)) 2 (st 402 "law_il0022_01" 727 58 87 778 w os).abs ⟨doneF .next,cE,⟨404,0,425,15⟩,[topFrame default]⟩)=fun os=>some ⟨H1 w.params,#[],{},778,os⟩:=by
 intro w
 kernel_rfl
theorem run (w:World)(os:OsState):topRun treeTable pw w 11 (some (R 6)) (12+(1+(332+(440+(359+(374+(350+(379+(396+(205+2)))))))))) ⟨boot_heap w.params,#[],boot_drawn,boot_toks,os⟩ (topStub pw)=some ⟨H1 w.params,#[],{},778,os⟩:=
 go_top (congrFun (pre w) os) (piece_block (b:=behindTheImports pw) (congrFun (blk w) os) (piece_app (l:=l0) (segRun_of (congrFun (p0 w) os)) (piece_app (l:=l1) (segRun_of (congrFun (p1 w) os)) (piece_app (l:=l2) (segRun_of (congrFun (p2 w) os)) (piece_app (l:=l3) (segRun_of (congrFun (p3 w) os)) (piece_app (l:=l4) (segRun_of (congrFun (p4 w) os)) (piece_app (l:=l5) (segRun_of (congrFun (p5 w) os)) (piece_app (l:=l6) (segRun_of (congrFun (p6 w) os)) (piece_app (l:=l7) (segRun_of (congrFun (p7 w) os)) (congrFun (fin w) os))))))))))
theorem size (w:World):((boot_heap w.params).isNs mainGlobals&&(#[]:Array GenState).size==0,(boot_heap w.params).objs.size,(boot_heap w.params).nsMap mainGlobals "__annotations__")=(true,11,some (R 6)):=by
 kernel_rfl
theorem opn:∀w:World,(fencedOpening treeTable pw w 5780).map (fun s=>(s.heap,s.gens,s.drawn,s.toks))=some (boot_heap w.params,Array.mk [],boot_drawn,boot_toks):=
 boot_open (by kernel_rfl) (by rfl) (fun s=>by kernel_rfl)
noncomputable abbrev Xt:Shared→Bool:=fun s=>xlAt view_39 lvT s&&recOk PySem.Challenge.rw_il0022_01.row.toRowW.records s
theorem PQ (w:World):(fun os=>((staticsOk (importedModules pw.main.body) (boot_heap w.params) (H1 w.params)&&namesBound pw (H1 w.params)&&gensDone ⟨H1 w.params,#[],{},778,os⟩&&laidKept (boot_heap w.params) (H1 w.params)),
  openSeen view_39 looseT (importedModules pw.main.body) Xt true ⟨H1 w.params,#[],{},778,os⟩,X.obsZ asT ⟨H1 w.params,#[],{},778,os⟩))=fun _=>(true,openGood view_39 looseT,X.valZ heap_39 402 778 w):=by
 kernel_rfl
theorem left:LeftO pw view_39 looseT Xt (X.obsZ asT) (X.valZ heap_39 402 778) 5780:=LeftO.of_pieces opn size run (by rfl) PQ
end hd
noncomputable abbrev PT:DefRec:=⟨Str.ofString "law",hd.a56,hd.b56,hd.s56,⟨404,0,425,15⟩⟩
theorem J9:defOf hd.view_39 (Str.ofString "law")=some (PT,[]):=by kernel_rfl
theorem J7:hd.pw.theDef (Str.ofString "law")=some (hd.a56,hd.b56,hd.s56):=by kernel_rfl
theorem LJ:kwWritten? hd.a56.kwonlyargs hd.a56.kw_defaults=some []:=by kernel_rfl
theorem Jw:PySem.Challenge.rw_il0022_01.wellSaid=true:=by kernel_rfl
theorem LH:(chainsOk hd.view_39&&opensWell hd.pw&&(frees PySem.Challenge.rw_il0022_01.row.toRowW&&PySem.Challenge.rw_il0022_01.row.within.isEmpty))=true:=by decide+kernel
theorem JK:hd.pw.bare:=⟨rfl,rfl,rfl,rfl,rfl,by decide+kernel⟩
noncomputable def AI:List Int→List Int→Bool
 | [],[]=>false
 | [],_::_=>true
 |_::_,[]=>false
 |a::r,b::t=>if a=b then AI r t else decide (a<b)
noncomputable def Bc (h:Heap)(a:Addr)(ks:List Int):Prop:=∃(vs:List Value) (n:Nat),h.get? a=some (seqObj "tuple" vs.toArray n)∧IntsAre vs ks
theorem Bc.keep {h h':Heap}{a:Addr}{ks:List Int}(t:Bc h a ks)(k:∀o,h.get? a=some o→h'.get? a=some o):Bc h' a ks:=let⟨vs,n,e,i⟩:=t;⟨vs,n,k _ e,i⟩
theorem ER:Slot "tuple" "__lt__" "tuple.__lt__":=
 .of (owner:= "tuple") (n:= "__lt__") (by rw [typeLookup_type,builtinLookup_eq_fast];kernel_rfl) (by decide+kernel) (by decide+kernel) (by decide+kernel)
  (by first|exact .inl (by decide+kernel)|exact .inr (by decide+kernel)) (by rw [isSubtype_type];kernel_rfl)
theorem ED:entryFor table "tuple.__lt__"=some Builtin.«tuple.__lt__»:=entryFor_of_tree (by kernel_rfl)
theorem EY (a b:Value):argsOk "tuple.__lt__" ⟨[a,b],[]⟩:=by unfold argsOk;kernel_rfl
theorem GY (l b:Addr)(vs us:List Value)(ks js:List Int)(n n2:Nat)(hv:IntsAre vs ks)(hu:IntsAre us js):
  Meets (Builtin.«tuple.__lt__» ⟨[.ref l,.ref b],[]⟩)
   (fun A R s=>s.heap.get? l=some (seqObj "tuple" vs.toArray n)∧s.heap.get? b=some (seqObj "tuple" us.toArray n2)∧R (.ok (.ret (.bool (AI ks js)))) s):=
 .of_wp fun prog w A R s h=>by
  obtain⟨hp,g,d,tk,os⟩:=s;obtain⟨hl,hb,h⟩:=h
  have f2:=AutoSeq1.sub_tuple_tuple
  wp_walk using wpAny_loadPart' hl,wpAny_loadPart' hb,wpAny_forIn_list _ (fun rest b s'=>b.1=none∧s'=⟨hp,g,d,tk,os⟩∧∃(vs' us':List Value) (ks' js':List Int),rest=vs'.zip us'∧IntsAre vs' ks'∧IntsAre us' js'∧vs.length+us'.length=us.length+vs'.length∧
   R (.ok (.ret (.bool (AI ks' js')))) ⟨hp,g,d,tk,os⟩) _
  case turn=>
   rintro⟨x,y⟩ rest b s' ⟨hb',rfl,vs',us',ks',js',hz,hv',hu',hn,hR⟩
   cases hv' with
   |nil=>simp at hz
   |cons i t hv'=>
    cases hu' with
    |nil=>simp at hz
    |cons j t' hu'=>
     rw [List.zip_cons_cons] at hz
     injection hz with hxy hrest
     injection hxy with hx hy
     subst hx hy
     refine wpAny_bind (wpAny_eqBool_int ?_)
     simp only [AI] at hR
     by_cases hij:i=j
     ·rw [if_pos hij] at hR
      subst hij
      rw [beq_self_eq_true]
      wp_walk
      refine⟨rfl,rfl,_,_,_,_,hrest,hv',hu',?_,hR⟩
      simp only [List.length_cons] at hn
      exact Nat.succ.inj hn
     ·rw [if_neg hij] at hR
      rw [beq_eq_false_iff_ne.mpr hij]
      show wpAny _ _ (rule _>>=fun _=>compareOp .Lt (Value.int i t) (Value.int j t')>>=_) _ _ _
      exact wpAny_bind (wpAny_rule (wpAny_bind (PyProof.Rows.lt_int (wpAny_bind (m:=ret _) (wpAny_pure (wpAny_pure (wpAny_pure ⟨_,rfl,hR⟩)))))))
  case fin=>
   rintro⟨b1,b2⟩ s' ⟨hb',rfl,vs',us',ks',js',hz,hv',hu',hn,hR⟩
   simp only at hb'
   subst hb'
   wp_walk
   refine⟨_,rfl,?_⟩
   have e:Builtin.Tuple.tupleCompareSizes .Lt vs.toArray.size us.toArray.size=Value.bool (AI ks' js'):=by
    show Value.bool (decide (vs.toArray.size<us.toArray.size))=_
    congr 1
    simp only [List.size_toArray]
    cases hv' with
    |nil=>
     cases hu' with
     |nil=>simp only [AI];simp only [List.length_nil] at hn;simp;exact Nat.le_of_eq hn.symm
     |cons j t' hu'=>simp only [AI];simp only [List.length_nil,List.length_cons] at hn;simp;exact Ar.pd3 hn
    |cons i t hv'=>
     cases hu' with
     |nil=>simp only [AI];simp only [List.length_nil,List.length_cons] at hn;simp;exact Ar.r198 hn
     |cons j t' hu'=>simp at hz
   rw [e];exact hR
  case h=>
   exact⟨rfl,rfl,vs,us,ks,js,by simp,hv,hu,by omega,h⟩
theorem JG {prog:Program}{w:World}{A:Around}{E:Value→Shared→Prop}{s:Shared}{a b:Addr}{ks js:List Int}{Q:Value→Shared→Prop}
  (ha:Bc s.heap a ks) (hb:Bc s.heap b js) (hu:A.units<cLine) (h:Q (.bool (AI ks js)) s):wpAny (model prog w) A (compareOp .Lt (.ref a) (.ref b)) Q E s:=by
 obtain⟨vs,n,hoa,hi⟩:=ha
 obtain⟨us,n2,hob,hj⟩:=hb
 exact cmp_ofLt (richCompare_meets_room ⟨_,hoa,rfl⟩ ⟨_,hob,rfl⟩ ER ED (EY _ _) (GY a b vs us ks js n n2 hi hj) ⟨hoa,hob,(fun x=>nomatch x),h⟩ hu)
noncomputable abbrev PR:Program:=PySem.Challenge.rw_il0022_01.row.prog
noncomputable abbrev AR (dp un:Nat)(fr:Option (List Env))(gd:Option (List Code)):Around:={handled:=none,depth:=dp,frames:=fr,guards:=gd,units:=un}
section
variable{prog:Program}{w:World}{A:Around}{s:Shared}{K:Frag}{R:Result→Shared→Prop}{name qual:Str}{params:Arguments}{body:List Stmt}{scope:Scope}{dV kV doc pm cdv ct oc:Value}{an od:Option Addr}{osl:Array (Option Value)}{f:Addr}{args:Args}{binds:List (Str×Value)}
 {p:Program} {loose:List Str} {mz:ExcName→Option Value} {mg mb:Str→Option Value} {hb:Heap}
theorem Ag (mu:List (Addr×Obj))(kb:hb.StaysIn s.heap)(X:K.In hb)(T:Top p loose mz mg mb hb)(hm:∀q∈mu,s.heap.get? q.1=some q.2∧hb.get? q.1=none)
  (ho:K.lookup f=some ⟨oc,od,.func (fnOf name qual params body scope dV kV doc pm an cdv ct),osl⟩) (hcd:codeIn K cdv qual=true) (hroom:A.depth<recursionLimit)
  (hbind:BindsTo s (fnOf name qual params body scope dV kV doc pm an cdv ct) args binds) (hloc:∀y∈binds,scope.names.lookup y.1=some .local)
  (h:∀g L' h₁,Fr g L' h₁ (fun y=>binds.reverse.lookup y)→News g L' h₁ mu→K.In g→Top p loose mz mg mb g→(∀b o,s.heap.get? b=some o→b∉mu.map (·.1)→g.get? b=some o)→
   (∀q∈mu,q.1<L')→s.heap.objs.size≤L'→
   wpAny (model prog w) (A.deeper (envOf qual scope L' f cdv)) (execs body (envOf qual scope L' f cdv))
    (fun fl s'=>R (.ok (.ret (match fl with|.ret v=>v|_=>.none))) s')
    (fun e s'=>wpAny (model prog w) (A.deeper (envOf qual scope L' f cdv)) (leaving (envOf qual scope L' f cdv) e) (fun _ s''=>R (.error e) s'') (fun e' s''=>R (.error e') s'') s')
    {s with heap:=h₁,toks:=s.toks+binds.length})
  (hco:scope.isCoroutine=false) (hgen:scope.isGenerator=false) (hk:scope.kind= .function) (hcell:∀x∈scope.names,x.2≠.cell):
  codeAny (model prog w) A (.call (.ref f) args) R s:=by
 have off:∀b o,hb.get? b=some o→b∉mu.map (·.1):=fun b o e q=>by
  k_extra "020"
  rw [(hm x hq).2] at e;cases e
 k_extra "01O"
 refine codeAny_call_def (fd:=fnOf name qual params body scope dV kV doc pm an cdv ct) (body:=body) (binds:=binds) hroom (kb _ _ (X _ _ ho)) rfl (T.nolimit.keeps kb) (codeRec_of (X.keeps kb) hcd) rfl hbind hcell hloc (fun h₁ hns hk₁=>?_) hco hgen hk
 exact h _ s.heap.objs.size h₁ ⟨hns,fun b o e=>hk₁ b o (of_hideAll _ e),Nat.le_of_eq (hideAll_size _ _)⟩
  (fun q hq=>⟨hk₁ _ _ (hm q hq).1,Nat.ne_of_lt (Heap.lt_size (hm q hq).1),hideAll_none _ (List.mem_map_of_mem hq)⟩) (X.keeps st) (T.keeps st) (fun b o e n=>hideAll_get _ e n) (fun q hq=>Heap.lt_size (hm q hq).1) (Nat.le_refl _)
end
section
variable{prog:Program}{w:World}{A:Around}{E:Value→Shared→Prop}{s:Shared}{h₀:Heap}{L d:Addr}{m:Str→Option Value}{news news':List (Addr×Obj)}{as:List Addr}{n:Nat}{k:Int}{t u:Tok}
noncomputable abbrev rl (as:List Addr)(n:Nat):Obj:=listOf (as.map Value.ref).toArray n
theorem Gg {value slice:PySem.Expr}{Q:Value→Shared→Prop}(N:News h₀ L s.heap news)(hm:(d,rl as n)∈news)(h0:0≤k)(h1:k<as.length)(hfit:k<2^63)(h:Q (.ref (as.getD k.toNat 0)) s)
  (hs:subscripted slice false (.ref d) (.int k u)=operate [.ref d,.int k u] (getItem (.ref d) (.int k u)):=by with_unfolding_all rfl):
  wpAny (model prog w) A (subscriptTail value slice (.ref d) (.int k u)) Q E s:=by
 k_extra "01e"
 refine tail_any hl.typeIs slot_list_getitem.lookup (wpAny_getItem_list hl h0 hfit (x:=.ref (as.getD k.toNat 0)) ?_ h) hs
 have:k.toNat<as.length:=by exact Ar.q74 h0 h1
 simp [this]
theorem Kz {Q:Unit→Shared→Prop}{a:Addr}(F:Fr h₀ L s.heap m)(N:News h₀ L s.heap news)(U:Upd d (rl as n) (rl (as.set k.toNat a) n) news news')(h0:0≤k)(h1:k<as.length)(hfit:k<2^63)
  (h:∀h',Fr h₀ L h' m→News h₀ L h' news'→Q () {s with heap:=h'}):
  wpAny (model prog w) A (setItem (.ref d) (.int k t) (.ref a)) Q E s:=by
 k_extra "04i"
 have z:=N (d,rl as n) (List.mem_append.mpr (.inr (.head _)))
 have hs:(as.map Value.ref).toArray.size=as.length:=by simp
 refine ki_setAt z.1 h0 hfit (by exact hs▸h1) (h _ (F.change (Heap.SameBut.update ..) z.2.1 z.2.2) (ki_turn _ N x y ?_ ?_))
 ·apply Array.toList_inj.mp
  simp [List.map_set]
 ·simp
end
section
variable{prog:Program}{w:World}{A:Around}{E:Value→Shared→Prop}{Q:Flow→Shared→Prop}{s:Shared}{env:Env}{g:Heap}{L:Addr}
inductive Az (g:Heap) (L:Addr) (s:Shared) (J:Nat→Nat→(Str→Option Value)→List (Addr×Obj)→Prop) (n:Nat) (s₃:Shared):Prop
 |mk (h':Heap) (tk:Nat) (m₂:Str→Option Value) (nw₂:List (Addr×Obj)) (n':Nat) (_:s₃={s with heap:=h',toks:=tk}) (_:Fr g L h' m₂) (_:News g L h' nw₂) (_:n'<n) (_:J n' tk m₂ nw₂):Az g L s J n s₃
theorem Az.intro {s:Shared}{J:Nat→Nat→(Str→Option Value)→List (Addr×Obj)→Prop}{n n' tk:Nat}{h':Heap}{m₂:Str→Option Value}{nw₂:List (Addr×Obj)}(F:Fr g L h' m₂)(N:News g L h' nw₂)(hn:n'<n)(hJ:J n' tk m₂ nw₂):
  Az g L s J n {s with heap:=h',toks:=tk}:=⟨h',tk,m₂,nw₂,n',rfl,F,N,hn,hJ⟩
noncomputable abbrev AZ (g:Heap)(L:Addr)(s:Shared)(J:Nat→(Str→Option Value)→List (Addr×Obj)→Prop)(n:Nat)(s₃:Shared):Prop:=Az g L s (fun n _ m nw=>J n m nw) n s₃
theorem AZ.intro {s:Shared}{J:Nat→(Str→Option Value)→List (Addr×Obj)→Prop}{n n' tk:Nat}{h':Heap}{m₂:Str→Option Value}{nw₂:List (Addr×Obj)}(F:Fr g L h' m₂)(N:News g L h' nw₂)(hn:n'<n)(hJ:J n' m₂ nw₂):
  AZ g L s J n {s with heap:=h',toks:=tk}:=.mk h' tk m₂ nw₂ n' rfl F N hn hJ
noncomputable def WhFlow (Q:Flow→Shared→Prop)(K:Shared→Prop)(f:Flow)(s₃:Shared):Prop:=match f with
 |.next=>K s₃
 |.cont=>K s₃
 |.brk=>Q .next s₃
 |.ret v=>Q (.ret v) s₃
theorem CT {test:PySem.Expr}{body:List Stmt}{pos:Pos}{m:Str→Option Value}{nw:List (Addr×Obj)}(J:Nat→(Str→Option Value)→List (Addr×Obj)→Prop){n₀:Nat}
  (F:Fr g L s.heap m) (N:News g L s.heap nw) (hJ:J n₀ m nw)
  (turn:∀n m₁ nw₁ h₁ tk₁,Fr g L h₁ m₁→News g L h₁ nw₁→J n m₁ nw₁→
   wpAny (model prog w) A (isTrue test env (eval test env)) (fun b s₂=>
    if b=true then wpAny (model prog w) A (execs body env) (WhFlow Q (AZ g L s J n)) E s₂ else Q .next s₂) E {s with heap:=h₁,toks:=tk₁})
  (hE:PassesOwn (model prog w) A env E:=by passes_own):
  wpAny (model prog w) A (exec (.While test body [] pos) env) Q E s:=by
 refine wpAny_While (codeAny_whileLoop (fun n s'=>∃h₁ tk₁ m₁ nw₁,s'={s with heap:=h₁,toks:=tk₁}∧Fr g L h₁ m₁∧News g L h₁ nw₁∧J n m₁ nw₁) ?_ n₀ ⟨s.heap,s.toks,m,nw,rfl,F,N,hJ⟩)
 rintro n s' ⟨h₁,tk₁,m₁,nw₁,rfl,F₁,N₁,J₁⟩
 refine wpAny_mono (turn n m₁ nw₁ h₁ tk₁ F₁ N₁ J₁) (fun b s₂ h₂=>?_) hE
 cases b with
 |false=>
  simp only [Bool.false_eq_true,if_false] at h₂⊢
  exact wpAny_execs_nil h₂
 |true=>
  simp only [if_true] at h₂⊢
  refine wpAny_mono h₂ (fun f s₃ h₃=>?_) hE
  have fin:AZ g L s J n s₃→∃k,k<n∧∃h₁ tk₁ m₁ nw₁,s₃={s with heap:=h₁,toks:=tk₁}∧Fr g L h₁ m₁∧News g L h₁ nw₁∧J k m₁ nw₁:=by
   rintro⟨h',tk,m₂,nw₂,n',e,F₂,N₂,hn,J₂⟩
   k_extra "02c"
  cases f with
  |next=>exact fin h₃
  |cont=>exact fin h₃
  |brk=>exact h₃
  |ret v=>exact h₃
end
theorem PV {g h:Heap}{L:Addr}{m:Str→Option Value}(F:Fr g L h m)(l:List (Str×Value))(hl:∀x∈l,m x.1=some x.2):Fr g L h (fun y=>(l.lookup y).or (m y)):=by
 have e:(fun y=>(l.lookup y).or (m y))=m:=by
  funext y
  cases q:l.lookup y with
  |none=>rfl
  |some v=>
   have:(y,v)∈l:=by
    clear hl
    induction l with
    |nil=>cases q
    |cons p r ih=>
     rw [List.lookup_cons] at q
     cases hb:y==p.1 with
     |true=>
      rw [hb] at q
      obtain⟨a,b⟩:=p
      have e1:y=a:=eq_of_beq hb
      have e2:b=v:=Option.some.inj q
      subst e1 e2
      exact .head _
     |false=>rw [hb] at q;exact .tail _ (ih q)
   exact(hl _ this).symm
 rw [e];exact F
noncomputable def Stop (P:Prop):Prop:=P
theorem Stop.at {P:Prop}(h:Stop P):P:=h
theorem Stop.go {P:Prop}(h:P):Stop P:=h
noncomputable def Has (m:Str→Option Value):List (Str×Value)→Prop
 | []=>True
 |(x,v)::r=>m x=some v∧Has m r
theorem Has.all {m:Str→Option Value}{l:List (Str×Value)}(h:Has m l)(x:Str×Value)(hx:x∈l):m x.1=some x.2:=by
 induction hx with
 |head=>exact h.1
 |tail _ _ ih=>exact ih h.2
theorem Has.fr {g h:Heap}{L:Addr}{m:Str→Option Value}{l:List (Str×Value)}(hl:Has m l)(F:Fr g L h m):Fr g L h (fun y=>(l.lookup y).or (m y)):=PV F l hl.all
section
variable{prog:Program}{w:World}{A:Around}{E:Value→Shared→Prop}{s:Shared}{a:Int}{t u:Tok}
theorem rsh1 {Q:Value→Shared→Prop}(h:Q (.int (a/2) s.toks) {s with toks:=s.toks+1}):wpAny (model prog w) A (binaryOp .RShift (.int a t) (.int 1 u)) Q E s:=by
 refine PyProof.Rows.rshift_int (by decide) ?_
 have e:a.fdiv (2^(1:Int).toNat)=a/2:=Int.fdiv_eq_ediv_of_nonneg _ (by decide)
 rw [e];exact h
theorem AN {as:List Addr}{i:Nat}(h:i<as.length):as.getD i 0∈as:=by
 k_extra "040"
 exact List.getElem_mem h
theorem Aw {as:List Addr}{i:Nat}{b:Addr}{P:Addr→Prop}(h:∀a∈as,P a)(hb:P b):∀a∈as.set i b,P a:=fun x hx=>by
 rcases List.mem_or_eq_of_mem_set hx with hx|rfl
 ·exact h _ hx
 ·exact hb
end
theorem after {g h h':Heap}{L d:Addr}{m:Str→Option Value}{news news':List (Addr×Obj)}{o o':Obj}(F:Fr g L h m)(N:News g L h news)(U:Upd d o o' news news')
  (k:∀b x,h.get? b=some x→b≠d→h'.get? b=some x) (hd:h'.get? d=some o'):Fr g L h' m∧News g L h' news':=by
 k_extra "04i"
 have z:=N (d,o) (List.mem_append.mpr (.inr (.head _)))
 k_extra "02d"
 refine⟨⟨⟨oL,es,ep,k _ _ hL (Ne.symm z.2.1),r⟩,fun b o e=>k b o (F.keep b o e) (fun q=>?_),F.above⟩,fun p hp=>?_⟩
 ·have:=z.2.2
  rw [q] at e
  rw [e] at this
  cases this
 ·k_extra "01z"
  ·exact⟨k _ _ (N p (List.mem_append.mpr (.inl hp))).1 (x p hp),(N p (List.mem_append.mpr (.inl hp))).2⟩
  ·k_extra "02"
   ·exact⟨hd,z.2⟩
   ·exact⟨k _ _ (N p (List.mem_append.mpr (.inr (.tail _ hp)))).1 (y p hp),(N p (List.mem_append.mpr (.inr (.tail _ hp)))).2⟩
section
variable{prog:Program}{w:World}{A:Around}{E:Value→Shared→Prop}{s:Shared}{h₀:Heap}{L d:Addr}{news:List (Addr×Obj)}{as:List Addr}{n:Nat}
theorem K1 {Q:Value→Shared→Prop}(N:News h₀ L s.heap news)(hm:(d,rl as n)∈news)(hs:as.length≤1000)(h:Q (.int as.length (s.toks+1)) {s with toks:=s.toks+1+1}):
  wpAny (model prog w) A (call (.builtin "len") [.ref d]) Q E s:=by
 k_extra "01e"
 have e:(as.map Value.ref).toArray.size=as.length:=by simp
 refine PyProof.Rows.len_list hl (by rw [e];exact Ar.zup ‹_› (by decide)) ?_
 rw [e];exact h
end
section
variable{prog:Program}{w:World}{A:Around}{E:Value→Shared→Prop}{Q:Flow→Shared→Prop}{s:Shared}{env:Env}{g:Heap}{L:Addr}{m:Str→Option Value}
noncomputable def ForTurn (prog:Program)(w:World)(A:Around)(g:Heap)(L:Addr)(env:Env)(target:PySem.Expr)(it:Value)(body:List Stmt)(Q:Flow→Shared→Prop)(E:Value→Shared→Prop)(s₀:Shared)(J:Nat→(Str→Option Value)→List (Addr×Obj)→Prop)(n:Nat)(r:Option Value)(s₁:Shared):Prop:=
 match r with
 |none=>Q .next s₁
 |some v=>wpAny (model prog w) A (letOwnedTupleGo target it v) (fun _ s₂=>wpAny (model prog w) A (assign target env v) (fun _ s₃=>wpAny (model prog w) A (execs body env) (WhFlow Q (AZ g L s₀ J n)) E s₃) E s₂) E s₁
inductive Kt (prog:Program) (w:World) (A:Around) (g:Heap) (L:Addr) (env:Env) (target:PySem.Expr) (body:List Stmt) (Q:Flow→Shared→Prop) (E:Value→Shared→Prop) (it:Value) (s₂:Shared):Prop
 |mk (J:Nat→(Str→Option Value)→List (Addr×Obj)→Prop) (n₀:Nat) (m:Str→Option Value) (nw:List (Addr×Obj)) (_:Fr g L s₂.heap m) (_:News g L s₂.heap nw) (_:J n₀ m nw) (_:∀n m₁ nw₁ h₁ tk₁,Fr g L h₁ m₁→News g L h₁ nw₁→J n m₁ nw₁→wpAny (model prog w) A (pyNext it) (ForTurn prog w A g L env target it body Q E s₂ J n) E {s₂ with heap:=h₁,toks:=tk₁}):Kt prog w A g L env target body Q E it s₂
noncomputable def Jf (prog:Program)(w:World)(A:Around)(env:Env)(target:PySem.Expr)(it:Value)(body orelse:List Stmt)(Q:Flow→Shared→Prop)(E:Value→Shared→Prop)(fin:Shared→Prop)(r:Option Value)(s₁:Shared):Prop:=
 match r with
 |none=>wpAny (model prog w) A (execs orelse env) Q E s₁
 |some v=>wpAny (model prog w) A (letOwnedTupleGo target it v) (fun _ s₂=>wpAny (model prog w) A (assign target env v) (fun _ s₃=>wpAny (model prog w) A (execs body env) (WhFlow Q fin) E s₃) E s₂) E s₁
inductive Pt (prog:Program) (w:World) (A:Around) (env:Env) (target:PySem.Expr) (body orelse:List Stmt) (Q:Flow→Shared→Prop) (E:Value→Shared→Prop) (it:Value) (s₂:Shared):Prop
 |mk (I fin:Nat→Shared→Prop) (n₀:Nat) (_:I n₀ s₂) (_:∀n s,fin n s→∃k,k<n∧I k s) (_:∀n s',I n s'→wpAny (model prog w) A (pyNext it) (Jf prog w A env target it body orelse Q E (fin n)) E s'):Pt prog w A env target body orelse Q E it s₂
theorem Pr {X:Value→Shared→Prop}{target iter:PySem.Expr}{body orelse:List Stmt}{pos:Pos}
  (h:wpAny (model prog w) A (eval iter env) (fun xv s₁=>wpAny (model prog w) A (pyIter xv) X E s₁) E s) (hX:∀it s₂,X it s₂→Pt prog w A env target body orelse Q E it s₂)
  (hs:∀x,foldedSetIterable iter env x=pure x) (hE:PassesOwn (model prog w) A env E):
  wpAny (model prog w) A (exec (.For target iter body orelse pos) env) Q E s:=by
 k_extra "019"
 obtain⟨I,fin,n₀,h0,hf,turn⟩:=hX it s₂ h₂
 refine codeAny_forLoop_any (R:=fun r s'=>match r with|.ok f=>Q f s'|.error e=>cameBackBy (model prog w) A env E e s') I (fun n s' hI=>?_) n₀ h0
 refine wpAny_passesOwn hE (wpAny_mono (turn n s' hI) (fun r s₁ hr=>?_) fun _ _ e=>e)
 cases r with
 |none=>exact wpAny_passesOwn hE hr
 |some v=>
  refine wpAny_passesOwn hE (wpAny_mono hr (fun _ s₃ h₃=>?_) fun _ _ e=>e)
  refine wpAny_passesOwn hE (wpAny_mono h₃ (fun _ s₄ h₄=>?_) fun _ _ e=>e)
  refine wpAny_passesOwn hE (wpAny_mono h₄ (fun f s₅ h₅=>?_) fun _ _ e=>e)
  cases f with
  |next=>exact hf n _ h₅
  |cont=>exact hf n _ h₅
  |brk=>exact h₅
  |ret v=>exact h₅
theorem HX {target iter:PySem.Expr}{body:List Stmt}{pos:Pos}(_F:Fr g L s.heap m)
  (h:wpAny (model prog w) A (eval iter env) (fun xv s₁=>wpAny (model prog w) A (pyIter xv) (Kt prog w A g L env target body Q E) E s₁) E s)
  (hs:∀x,foldedSetIterable iter env x=pure x:=by intro _;rfl) (hE:PassesOwn (model prog w) A env E:=by passes_own):
  wpAny (model prog w) A (exec (.For target iter body [] pos) env) Q E s:=by
 k_extra "03Z"
 obtain⟨J,n₀,m,nw,F,N,hJ,turn⟩:=h₂
 k_extra "0y"
 ·k_extra "04b"
  k_extra "02P"
 ·k_extra "03q"
  exact wpAny_mono (turn k m₁ nw₁ h₁ tk₁ F₁ N₁ J₁) (fun r s₁ hr=>by cases r with|none=>exact wpAny_execs_nil hr|some v=>exact hr) fun _ _ e=>e
end
section
variable{prog:Program}{w:World}{A:Around}{E:Value→Shared→Prop}{s:Shared}{env:Env}{g:Heap}{L:Addr}{m:Str→Option Value}
noncomputable def CompIf (prog:Program)(w:World)(A:Around)(ifs:List PySem.Expr)(cenv:Env)(yes no:Shared→Prop)(E:Value→Shared→Prop)(s:Shared):Prop:=match ifs with
 | []=>yes s
 | [c]=>wpAny (model prog w) A (isTrue c cenv (eval c cenv)) (fun b s'=>if b=true then yes s' else no s') E s
 |_=>False
noncomputable def EO (prog:Program)(w:World)(A:Around)(g':Heap)(C D:Addr)(cenv:Env)(elt target:PySem.Expr)(ifs:List PySem.Expr)(it:Value)(R:Shared→Prop)(s₀:Shared)(J:Nat→(Str→Option Value)→List (Addr×Obj)→Prop)(n:Nat)(r:Option Value)(s₁:Shared):Prop:=
 match r with
 |none=>R s₁
 |some v=>wpAny (model prog w) A (letOwnedTupleGo target it v) (fun _ s₂=>wpAny (model prog w) A (assign target cenv v) (fun _ s₃=>CompIf prog w A ifs cenv
   (fun s₄=>wpAny (model prog w) A (eval elt cenv) (fun x s₅=>wpAny (model prog w) A (call (.builtin "list.append") [.ref D,x]) (fun _ s₆=>AZ g' C s₀ J n s₆) (fun _ _=>False) s₅) (fun _ _=>False) s₄)
   (fun s₄=>AZ g' C s₀ J n s₄) (fun _ _=>False) s₃) (fun _ _=>False) s₂) (fun _ _=>False) s₁
inductive EP (prog:Program) (w:World) (A:Around) (g':Heap) (C D:Addr) (cenv:Env) (elt target:PySem.Expr) (ifs:List PySem.Expr) (it:Value) (R:Shared→Prop) (s₀:Shared):Prop
 |mk (J:Nat→(Str→Option Value)→List (Addr×Obj)→Prop) (n₀:Nat) (m:Str→Option Value) (nw:List (Addr×Obj)) (_:Fr g' C s₀.heap m) (_:News g' C s₀.heap nw) (_:J n₀ m nw) (_:∀n m₁ nw₁ h₁ tk₁,Fr g' C h₁ m₁→News g' C h₁ nw₁→J n m₁ nw₁→wpAny (model prog w) A (pyNext it) (EO prog w A g' C D cenv elt target ifs it R s₀ J n) (fun _ _=>False) {s₀ with heap:=h₁,toks:=tk₁}):EP prog w A g' C D cenv elt target ifs it R s₀
noncomputable def DI (prog:Program)(w:World)(A:Around)(g':Heap)(C D:Addr)(cenv:Env)(elt target:PySem.Expr)(ifs:List PySem.Expr)(it:Value)(R:Shared→Prop)(s₀:Shared)(J:Nat→Nat→(Str→Option Value)→List (Addr×Obj)→Prop)(n:Nat)(r:Option Value)(s₁:Shared):Prop:=
 match r with
 |none=>R s₁
 |some v=>wpAny (model prog w) A (letOwnedTupleGo target it v) (fun _ s₂=>wpAny (model prog w) A (assign target cenv v) (fun _ s₃=>CompIf prog w A ifs cenv
   (fun s₄=>wpAny (model prog w) A (eval elt cenv) (fun x s₅=>wpAny (model prog w) A (call (.builtin "list.append") [.ref D,x]) (fun _ s₆=>Az g' C s₀ J n s₆) (fun _ _=>False) s₅) (fun _ _=>False) s₄)
   (fun s₄=>Az g' C s₀ J n s₄) (fun _ _=>False) s₃) (fun _ _=>False) s₂) (fun _ _=>False) s₁
inductive CU (prog:Program) (w:World) (A:Around) (g':Heap) (C D:Addr) (cenv:Env) (elt target:PySem.Expr) (ifs:List PySem.Expr) (it:Value) (R:Shared→Prop) (s₀:Shared):Prop
 |mk (J:Nat→Nat→(Str→Option Value)→List (Addr×Obj)→Prop) (n₀:Nat) (m:Str→Option Value) (nw:List (Addr×Obj)) (_:Fr g' C s₀.heap m) (_:News g' C s₀.heap nw) (_:J n₀ s₀.toks m nw) (_:∀n tk₁ m₁ nw₁ h₁,Fr g' C h₁ m₁→News g' C h₁ nw₁→J n tk₁ m₁ nw₁→wpAny (model prog w) A (pyNext it) (DI prog w A g' C D cenv elt target ifs it R s₀ J n) (fun _ _=>False) {s₀ with heap:=h₁,toks:=tk₁}):CU prog w A g' C D cenv elt target ifs it R s₀
theorem Ai {elt target iter:PySem.Expr}{ifs:List PySem.Expr}{scope:Scope}{pos:Pos}{it:Value}{g':Heap}{C D:Addr}{cenv:Env}{R:Result→Shared→Prop}
  (h:CU prog w A g' C D cenv elt target ifs it (fun s'=>R (.ok .next) s') s):
  codeAny (model prog w) A (.compLoop (.ListComp elt [⟨target,iter,ifs,0⟩] scope pos) 0 it (.ref D) cenv) R s:=by
 k_extra "03w"
 k_extra "09"
 k_extra "02F"
 show wpAny _ A ((compTurn (.ListComp elt [⟨target,iter,ifs,0⟩] scope pos) 0 it (.ref D) cenv).onRaise (fun x=>do noteFrame x cenv;theTreesLotGoes x)) _ _ _
 refine wpAny_noted ?_
 rw [compTurn_list]
 k_extra "0l"
 have fin:∀{s₅},Az g' C s J n s₅→∃k,k<n∧∃h₁ tk₁ m₁ nw₁,s₅={s with heap:=h₁,toks:=tk₁}∧Fr g' C h₁ m₁∧News g' C h₁ nw₁∧J k tk₁ m₁ nw₁:=by
  k_extra "02B"
  k_extra "02c"
 cases r with
 |none=>exact wpAny_pure hr
 |some v=>
  k_extra "01A"
  k_extra "013"
  have yes:∀s₄,wpAny (model prog w) A (eval elt cenv) (fun x s₅=>wpAny (model prog w) A (call (.builtin "list.append") [.ref D,x]) (fun _ s₆=>Az g' C s J n s₆) (fun _ _=>False) s₅) (fun _ _=>False) s₄→
    wpAny (model prog w) A ((eval elt cenv>>=fun x=>call (.builtin "list.append") [.ref D,x]>>=fun _=>pure ())>>=fun _=>again (.compLoop (.ListComp elt [⟨target,iter,ifs,0⟩] scope pos) 0 it (.ref D) cenv))
     (fun fin s'=>match fin with|.done f=>R (.ok f) s'|.again c'=>c'= .compLoop (.ListComp elt [⟨target,iter,ifs,0⟩] scope pos) 0 it (.ref D) cenv∧∃k,k<n∧∃h₁ tk₁ m₁ nw₁,s'={s with heap:=h₁,toks:=tk₁}∧Fr g' C h₁ m₁∧News g' C h₁ nw₁∧J k tk₁ m₁ nw₁)
     (notedBy (model prog w) A cenv fun e s'=>R (.error e) s') s₄:=fun s₄ h₄=>
   wpAny_bind (wpAny_bind (wpAny_mono h₄ (fun x s₅ h₅=>wpAny_bind (wpAny_mono h₅ (fun _ s₆ h₆=>wpAny_pure (wpAny_pure ⟨rfl,fin h₆⟩)) fun _ _ h'=>h'.elim)) fun _ _ h'=>h'.elim))
  unfold CompIf at h₃
  split at h₃
  ·refine wpAny_tests_nil ?_
   exact yes _ h₃
  ·refine wpAny_tests_one (wpAny_mono h₃ (fun b s₄ h₄=>?_) fun _ _ h'=>h'.elim)
   cases b with
   |false=>exact wpAny_pure ⟨rfl,fin (by simpa using h₄)⟩
   |true=>exact yes _ (by simpa using h₄)
  ·exact h₃.elim
theorem IP {elt target iter:PySem.Expr}{ifs:List PySem.Expr}{scope:Scope}{pos:Pos}{it:Value}{g':Heap}{C D:Addr}{cenv:Env}{R:Result→Shared→Prop}
  (h:EP prog w A g' C D cenv elt target ifs it (fun s'=>R (.ok .next) s') s):
  codeAny (model prog w) A (.compLoop (.ListComp elt [⟨target,iter,ifs,0⟩] scope pos) 0 it (.ref D) cenv) R s:=by
 k_extra "03w"
 exact Ai ⟨fun n _ m nw=>J n m nw,n₀,m,nw,F,N,hJ,fun n tk₁ m₁ nw₁ h₁ F₁ N₁ J₁=>turn n m₁ nw₁ h₁ tk₁ F₁ N₁ J₁⟩
end
section
variable{prog:Program}{w:World}{A:Around}{E:Value→Shared→Prop}{s:Shared}{env:Env}{g:Heap}{L:Addr}{m:Str→Option Value}
inductive FR (prog:Program) (w:World) (A:Around) (g:Heap) (L:Addr) (m:Str→Option Value) (env:Env) (elt target:PySem.Expr) (ifs:List PySem.Expr) (scope:Scope) (cl:List (Str×Addr)) (K:List (Addr×Obj)→Addr→Shared→Prop) (it:Value) (s₂:Shared):Prop
 |mk (news:List (Addr×Obj)) (_:Fr g L s₂.heap m) (_:News g L s₂.heap news) (_:∀g' D C h₁ tk₁,(∀b o,g.get? b=some o→g'.get? b=some o)→(∀b o,s₂.heap.get? b=some o→b∉news.map (·.1)→g'.get? b=some o)→
  Fr g' C h₁ (fun _=>none)→News g' C h₁ ((D,listOf #[] 0)::news)→(∀p∈news,p.1<D)→D<C→
  EP prog w A g' C D (compEnvC scope cl C env) elt target ifs it
   (fun s₃=>∃m' nw',Fr g' C s₃.heap m'∧News g' C s₃.heap nw'∧K nw' D s₃) {s₂ with heap:=h₁,toks:=tk₁}):FR prog w A g L m env elt target ifs scope cl K it s₂
theorem EF {elt target iter:PySem.Expr}{ifs:List PySem.Expr}{scope:Scope}{cl:List (Str×Addr)}{pos:Pos}{it:Value}{K:List (Addr×Obj)→Addr→Shared→Prop}{RR:Value→Addr→Result→Shared→Prop}
  (hcell:∀y∈scope.names,y.2≠.cell) (hkind:scope.kind= .function)
  (hit:∀s':Shared,(∀b o,s.heap.get? b=some o→s'.heap.get? b=some o)→∀(Q:Value→Shared→Prop) (E:Value→Shared→Prop),Q it s'→wpAny (model prog w) A (pyIter it) Q E s')
  (h:FR prog w A g L m env elt target ifs scope cl K it s)
  (hRR:∀(g':Heap) D C s₃ m' nw',Fr g' C s₃.heap m'→News g' C s₃.heap nw'→(∀b o,g.get? b=some o→g'.get? b=some o)→(∃oL,g'.get? L=some oL)→Fr g L s₃.heap m→News g L s₃.heap nw'→g.get? C=none→C≠L→(∀p∈nw',p.1≠C)→K nw' D s₃→RR (.ref D) C (.ok .next) s₃):
  wpAny (model prog w) A (newList []) (fun acc s₃=>wpAny (model prog w) A (newFunctionEnv scope env.globals cl [] env.qual none .none (some env)) (fun cenv s₄=>
   codeAny (model prog w) A (.compStart (.ListComp elt [⟨target,iter,ifs,0⟩] scope pos) 0 it acc {cenv with scope:=relabel scope env}) (RR acc cenv.locals) s₄) E s₃) E s:=by
 obtain⟨news,F,N,h⟩:=h
 refine wpAny_newObj_type (wpAny_newFunctionEnv hcell (by intro y hy;simp at hy) (fun h₁ hns₁ hsb₁=>?_) hkind)
 dsimp only at hns₁ hsb₁⊢
 generalize hH2:s.heap.push {cls:=.type "list",dict:=none,data:=.seq ([]:List Value).toArray}=H2 at hns₁ hsb₁⊢
 k_extra "03c"
 k_extra "023"
 k_extra "01a"
 have old:∀b o,s.heap.get? b=some o→h₁.get? b=some o:=fun b o e=>hsb₁.extBut b o (below b (Heap.lt_size e)) (Heap.get?_push_of_some _ (hH2▸Heap.get?_push_of_some _ e))
 have hacc:h₁.get? s.heap.objs.size=some (listOf #[] 0):=hsb₁.extBut _ _ hDC (Heap.get?_push_of_some _ (hH2▸Heap.get?_push_size _ rfl))
 have gsub:∀b o,g.get? b=some o→b∉news.map (·.1):=fun b o e q=>by
  obtain⟨p,hp,rfl⟩:=List.mem_map.mp q
  rw [(N p hp).2.2] at e;cases e
 k_extra "0V"
 obtain⟨oL,es,ep,hL,hLd,hLk,hLf⟩:=F.ns
 have nL:L∉news.map (·.1):=fun q=>by
  obtain⟨p,hp,e⟩:=List.mem_map.mp q
  exact(N p hp).2.1 e
 have hLg:=hideAll_get (news.map (·.1)) hL nL
 have FC:Fr (hideAll s.heap (news.map (·.1))) H2.objs.size h₁ (fun _=>none):=
  ⟨hns₁,fun b o e=>old b o (of_hideAll _ e),by rw [hideAll_size,hC];exact Nat.le_succ _⟩
 have NC:News (hideAll s.heap (news.map (·.1))) H2.objs.size h₁ ((s.heap.objs.size,listOf #[] 0)::news):=by
  intro p hp
  k_extra "02"
  ·refine⟨hacc,hDC,?_⟩
   cases q:(hideAll s.heap (news.map (·.1))).get? s.heap.objs.size with
   |none=>rfl
   |some o=>exact absurd (Heap.lt_size (of_hideAll _ q)) (Nat.lt_irrefl _)
  ·k_extra "01G"
 have lp:=h _ s.heap.objs.size H2.objs.size h₁ (s.toks+([]:List (Str×Value)).length) st (fun b o e n=>hideAll_get _ e n) FC NC (fun p hp=>Heap.lt_size (N p hp).1) (by rw [hC];exact Nat.lt_succ_self _)
 have hCg:g.get? H2.objs.size=none:=by
  cases q:g.get? H2.objs.size with
  |none=>rfl
  |some o=>exact absurd (Heap.lt_size (F.keep _ _ q)) (by rw [hC];exact Nat.not_lt_of_le (Nat.le_succ _))
 k_extra "03G"
 have run:codeAny (model prog w) A (.compLoop (.ListComp elt [⟨target,iter,ifs,0⟩] scope pos) 0 it (.ref s.heap.objs.size) (compEnvC scope cl H2.objs.size env)) (RR (.ref s.heap.objs.size) H2.objs.size)
   {s with heap:=h₁,toks:=s.toks+([]:List (Str×Value)).length}:=by
  refine codeAny_mono (IP (g':=hideAll s.heap (news.map (·.1))) (C:=H2.objs.size) (R:=fun r s'=>r= .ok .next∧∃m' nw',Fr (hideAll s.heap (news.map (·.1))) H2.objs.size s'.heap m'∧News (hideAll s.heap (news.map (·.1))) H2.objs.size s'.heap nw'∧K nw' s.heap.objs.size s') ?_) fun r s' hr=>?_
  ·obtain⟨J,n₀,m1,nw1,a1,a2,a3,a4⟩:=lp
   refine⟨J,n₀,m1,nw1,a1,a2,a3,fun n m₁ nw₁ h₂ tk₂ b1 b2 b3=>wpAny_mono (a4 n m₁ nw₁ h₂ tk₂ b1 b2 b3) (fun r s' hr=>?_) fun _ _ e=>e⟩
   cases r with
   |none=>exact⟨rfl,hr⟩
   |some v=>exact hr
  ·obtain⟨rfl,m',nw',F',N',hK⟩:=hr
   k_extra "01c"
   k_extra "011"
   ·have:=(N' p hp).2.2;rw [q,hLg] at this;cases this
   ·cases q:g.get? p.1 with
    |none=>rfl
    |some o=>have:=(N' p hp).2.2;rw [st _ _ q] at this;cases this
 k_extra "04C"
noncomputable def Bw (prog:Program)(w:World)(A:Around)(it:Value)(h:Heap):Prop:=
 ∀s':Shared,(∀b o,h.get? b=some o→s'.heap.get? b=some o)→∀(Q:Value→Shared→Prop) (E:Value→Shared→Prop),Q it s'→wpAny (model prog w) A (pyIter it) Q E s'
theorem Jh {elt target iter:PySem.Expr}{ifs:List PySem.Expr}{scope:Scope}{cl:List (Str×Addr)}{pos:Pos}{Q:Value→Shared→Prop}(_F:Fr g L s.heap m)
  (hclos:closureFor scope env=pure cl) (hcell:∀y∈scope.names,y.2≠.cell) (hkind:scope.kind= .function) (hnames:∀y∈scope.names,y.2= .local→scope.names.lookup y.1=some .local)
  (h:wpAny (model prog w) A (eval iter env) (fun xv s₁=>wpAny (model prog w) A (pyIter xv) (fun it s₂=>Bw prog w A it s₂.heap∧
   FR prog w A g L m env elt target ifs scope cl (fun nw' D s₃=>∀h',Fr g L h' m→News g L h' nw'→Q (.ref D) {s₃ with heap:=h'}) it s₂) E s₁) E s)
  (hs:∀x,foldedSetIterable iter env x=pure x:=by intro _;rfl):
  wpAny (model prog w) A (eval (.ListComp elt [⟨target,iter,ifs,0⟩] scope pos) env) Q E s:=by
 rw [eval_ListComp]
 k_extra "0z"
 refine EF (RR:=fun acc C=>compPost (model prog w) A E none Q acc C) hcell hkind h₂.1 h₂.2 ?_
 k_extra "01R"
 k_extra "01n"
 obtain⟨oL,es,ep,hL,r⟩:=FL.ns
 k_extra "0J"
theorem LQ {elt target iter:PySem.Expr}{ifs:List PySem.Expr}{scope:Scope}{cl:List (Str×Addr)}{pos spos:Pos}{y:Str}{py:Pos}{Q:Flow→Shared→Prop}(_F:Fr g L s.heap m)(hLe:env.locals=L)
  (hsw:swapsWith (.ListComp elt [⟨target,iter,ifs,0⟩] scope pos) (some (.Name y py)) spos.line env=pure true)
  (hclos:closureFor scope env=pure cl) (hcell:∀y∈scope.names,y.2≠.cell) (hkind:scope.kind= .function) (hnames:∀y∈scope.names,y.2= .local→scope.names.lookup y.1=some .local)
  (hy:env.kindOf y=some .local) (hp:(env.scope.kind== .class||(env.scope.kind== .module&&env.locals !=env.globals))=false)
  (h:wpAny (model prog w) A (eval iter env) (fun xv s₁=>wpAny (model prog w) A (pyIter xv) (fun it s₂=>Bw prog w A it s₂.heap∧
   FR prog w A g L m env elt target ifs scope cl (fun nw' D s₃=>∀h' tk',Fr g L h' (fun z=>if z=y then some (.ref D) else m z)→News g L h' nw'→Q .next {s₃ with heap:=h',toks:=tk'}) it s₂) E s₁) E s)
  (hs:∀x,foldedSetIterable iter env x=pure x:=by intro _;rfl):
  wpAny (model prog w) A (exec (.Assign [.Name y py] (.ListComp elt [⟨target,iter,ifs,0⟩] scope pos) spos) env) Q E s:=by
 subst hLe
 rw [exec_Assign_Name_used _ _ _ _ hsw]
 refine wpAny_bind (wpAny_standAt (wpAny_bind ?_))
 show wpAny _ A (do let _←comprehension (.ListComp elt [⟨target,iter,ifs,0⟩] scope pos) scope env _ (newList []) false (eval iter env) (some (assign (.Name y py) env))) _ _ s
 refine wpAny_bind (wpAny_mono (wpAny_comprehension_free (use:=some (assign (.Name y py) env)) (Q:=fun _ s'=>Q .next s') rfl hs hclos hkind hnames
  (wpAny_mono h (fun xv s₁ h₁=>wpAny_mono h₁ (fun it s₂ h₂=>?_) fun _ _ e=>e) fun _ _ e=>e)) (fun _ s' hq=>wpAny_pure (wpAny_pure hq)) fun _ _ e=>e)
 refine EF (RR:=fun acc C=>compPost (model prog w) A E (some (assign (.Name y py) env)) (fun _ s'=>Q .next s') acc C) hcell hkind h₂.1 h₂.2 ?_
 k_extra "01R"
 k_extra "04j"
 k_extra "02f"
 have F2:=FL.set hn₂ hs₂
 have N2:=NL.set hs₂
 refine⟨m',F'.ns.sameBut hs₂ hCL,fun h'' hs''=>hK h'' _ ?_ fun p hp=>⟨hs''.extBut _ _ (hne p hp) (N2 p hp).1,(N2 p hp).2⟩⟩
 obtain⟨oL,es,ep,hL,r⟩:=F2.ns
 k_extra "0K"
end
section
variable{M:Model}{A:Around}{E:Value→Shared→Prop}{s:Shared}{g:Heap}{C:Addr}{m:Str→Option Value}{nw:List (Addr×Obj)}{scope:Scope}{cl:List (Str×Addr)}{env:Env}{x:Str}{pos:Pos}{v:Value}
theorem FJ {Q:Value→Shared→Prop}(F:Fr g C s.heap m)(hv:m x=some v)(h:Q v s)(hk:(compEnvC scope cl C env).scope.kind= .function)(hl:(compEnvC scope cl C env).kindOf x=some .local)(hd:(x==("__debug__":Str))=false):
  wpAny M A (eval (.Name x pos) (compEnvC scope cl C env)) Q E s:=wpAny_Name (wpAny_loadName_local hk hl F.ns hv h) hd
theorem Dd {Q:Unit→Shared→Prop}(F:Fr g C s.heap m)(N:News g C s.heap nw)(h:∀h' tk',Fr g C h' (fun y=>if y=x then some v else m y)→News g C h' nw→Q () {s with heap:=h',toks:=tk'})
  (hl:(compEnvC scope cl C env).kindOf x=some .local) (hp:((compEnvC scope cl C env).scope.kind== .class||((compEnvC scope cl C env).scope.kind== .module&&(compEnvC scope cl C env).locals !=(compEnvC scope cl C env).globals))=false):
  wpAny M A (storeName (compEnvC scope cl C env) x v) Q E s:=
 wpAny_storeName_local hl F.ns (fun h' hn hs=>h h' _ (F.set hn hs) (N.set hs)) hp
end
section
variable{prog:Program}{w:World}{A:Around}{E:Value→Shared→Prop}{s:Shared}{h₀:Heap}{L d:Addr}{m:Str→Option Value}{news news':List (Addr×Obj)}{as:List Addr}{n:Nat}
theorem Eg {b:Addr}{Q:Value→Shared→Prop}(F:Fr h₀ L s.heap m)(N:News h₀ L s.heap news)(U:Upd d (rl as n) (rl (as++ [b]) (n+1)) news news')(hz:as.length≤1000)(h:∀h',Fr h₀ L h' m→News h₀ L h' news'→Q .none {s with heap:=h'}):
  wpAny (model prog w) A (call (.builtin "list.append") [.ref d,.ref b]) Q E s:=by
 have e:((as++ [b]).map Value.ref).toArray=(as.map Value.ref).toArray.push (.ref b):=by simp
 unfold rl at U
 rw [e] at U
 exact append_K F N U h (by rw [List.size_toArray,List.length_map,sizeLine_eq];exact Ar.upS ‹_› (by rfl))
theorem AP {us:List Value}{v:Value}{Q:Value→Shared→Prop}(F:Fr h₀ L s.heap m)(N:News h₀ L s.heap news)(U:Upd d (listOf us.toArray n) (listOf (us++ [v]).toArray (n+1)) news news')(hz:us.length≤1000)(h:∀h',Fr h₀ L h' m→News h₀ L h' news'→Q .none {s with heap:=h'}):
  wpAny (model prog w) A (call (.builtin "list.append") [.ref d,v]) Q E s:=by
 have e:(us++ [v]).toArray=us.toArray.push v:=by simp
 rw [e] at U
 exact append_K F N U h (by rw [List.size_toArray,sizeLine_eq];exact Ar.upS ‹_› (by rfl))
end
section
variable{prog:Program}{w:World}{A:Around}{E:Value→Shared→Prop}{s:Shared}{g:Heap}{L:Addr}{m:Str→Option Value}{rest:List (Addr×Obj)}
theorem Ao {I D:Addr}{oI:Obj}{xs:List Value}{k:Nat}{Q:Option Value→Shared→Prop}(hh:A.handled=none)(F:Fr g L s.heap m)(N:News g L s.heap ((I,oI)::rest))(cI:oI.cls= .type "list_iterator")(dI:oI.data= .fields #[.ref D,.int k 0])(hl:s.heap.IsList D xs.toArray)
  (hne:∀p∈rest,p.1≠I)
  (h1:∀v,xs[k]?=some v→∀h' oI',oI'.cls= .type "list_iterator"→oI'.data= .fields #[.ref D,.int (k+1:Nat) 0]→Fr g L h' m→News g L h' ((I,oI')::rest)→Q (some v) {s with heap:=h'})
  (h2:xs[k]?=none→∀h',Fr g L h' m→News g L h' rest→Q none {s with heap:=h'}):wpAny (model prog w) A (pyNext (.ref I)) Q E s:=by
 have hI:=N _ (.head _)
 k_extra "04z"
 cases e:xs[k]? with
 |some a=>
  refine wpAny_pyNext_list_item hit hl (x:=a) (by simp [e]) fun h' hit' hs'=>?_
  k_extra "04o"
  k_extra "01Z"
  k_extra "02"
  ·exact⟨eo,hI.2⟩
  ·k_extra "0u"
 |none=>
  k_extra "03n"
  k_extra "0c"
  ·k_extra "02d"
   k_extra "01C"
  ·have:=hI.2.2
   k_extra "048"
end
section
variable{M:Model}{A:Around}{E:Value→Shared→Prop}{s:Shared}{env:Env}
theorem GO {pos:Pos}{id:String}{first:List Value}{kws:List Keyword}{Q:Value→Shared→Prop}
  (h:wpAny M A (evalAll ((backToKw pos (keywordEach kws env)).map (·.2))) (fun kvs s₂=>wpAny M A (call (.builtin id) (first++ []) (((backToKw pos (keywordEach kws env)).filterMap (·.1)).zip kvs)) Q E s₂) E s)
  (hall:(backToKw pos (keywordEach kws env)).all (·.1.isSome)=true:=by rfl)
  (hkw:(backToKw pos (keywordEach kws env)).any (·.1.isNone)=false:=by rfl):
  wpAny M A (callWith pos (.builtin id) first (backTo pos (starEach [] env)) (backToKw pos (keywordEach kws env))) Q E s:=by
 refine callWith_builtin_kwB (by rfl) hkw ?_
 unfold evalArgs
 show wpAny M A (spliced []>>=_) _ _ _
 k_extra "04r"
 k_extra "04r"
 refine wpAny_holding ?_
 rw [if_pos hall]
 refine wpAny_bind (wpAny_mono h (fun kvs s₂ h₂=>?_) fun _ _ x=>x)
 exact wpAny_bind (wpAny_pure (wpAny_pure h₂))
end
section
variable{prog:Program}{w:World}{A:Around}{E:Value→Shared→Prop}{s:Shared}
noncomputable abbrev AJ (x left step:Int):Obj:={cls:=.type "range_iterator",data:=.fields #[rawInt x,rawInt left,rawInt step]}
theorem DU:isSubtype (.type "range_iterator") (.type "reversed")=pure false:=by rw [isSubtype_type];kernel_rfl
theorem E2 (n:Nat):Builtin.Range.rangeSize 0 n 1=n:=by
 unfold Builtin.Range.rangeSize
 rw [if_pos (by decide)]
 by_cases h:(0:Int)<n
 ·rw [if_pos h];exact Ar.r295
 ·rw [if_neg h];exact Ar.r305 h
theorem CW {r:Addr}{n:Nat}{t u v:Tok}{Q:Value→Shared→Prop}(hr:IsRange s.heap r 0 n 1 t u v)(hn:n≤1000)
  (h:Q (.ref s.heap.objs.size) {s with heap:=s.heap.push (AJ ((n:Int)-1) n (-1))}):wpAny (model prog w) A (call (.builtin "range.__reversed__") [.ref r]) Q E s:=by
 have hT:s.TypeIs (.ref r) "range":=⟨_,hr,rfl⟩
 refine wpAny_call_entry F.slot_range_reversed hT F.entry_range_reversed ?_ (F.args_range_reversed_1 _)
 unfold Builtin.«range.__reversed__»
 refine wpAny_bind (wpAny_of_eq (a:=Value.ref r) rfl ?_)
 unfold Builtin.Range.rangeFields
 refine wpAny_bind (wpAny_bind (wpAny_field hr rfl (x:=.int 0 t) rfl (wpAny_bind (wpAny_pure ?_))))
 refine wpAny_bind (wpAny_field hr rfl (x:=.int n u) rfl (wpAny_bind (wpAny_pure ?_)))
 refine wpAny_bind (wpAny_field hr rfl (x:=.int 1 v) rfl ?_)
 rw [show asInt? (.int 1 v)=pure (some 1) from rfl,pure_bind]
 k_extra "02A"
 dsimp only
 rw [E2]
 have hs:(Builtin.Range.rangeFitsLong 0&&Builtin.Range.rangeFitsLong (n:Int)&&Builtin.Range.rangeFitsLong 1&&Builtin.Range.rangeFitsLong (-1)&&Builtin.Range.rangeFitsLong (0-1)&&Builtin.Range.rangeFitsLong (n:Int))=true:=by
  have e:Builtin.Range.rangeFitsLong (n:Int)=true:=by
   unfold Builtin.Range.rangeFitsLong
   simp only [Bool.and_eq_true,decide_eq_true_eq]
   exact Ar.r132 hn
  rw [e];decide+kernel
 rw [hs]
 simp only [Bool.not_true,Bool.false_eq_true,if_false,if_true]
 refine wpAny_bind (m:=newFields _ _) (wpAny_newObj_type (wpAny_pure ⟨_,rfl,?_⟩))
 have e:(0:Int)+((n:Int)-1)*1=(n:Int)-1:=by omega
 rw [e]
 exact h
theorem CV {r:Addr}{n:Nat}{t u v:Tok}{Q₁:Value→Shared→Prop}(hr:IsRange s.heap r 0 n 1 t u v)(hn:n≤1000)
  (h:Q₁ (.ref s.heap.objs.size) {s with heap:=s.heap.push (AJ ((n:Int)-1) n (-1))}):
  codeAny (model prog w) A (.call (.builtin "reversed.__new__") ⟨[.type "reversed",.ref r],[]⟩) (wants Q₁ E) s:=by
 have hT:s.TypeIs (.ref r) "range":=⟨_,hr,rfl⟩
 refine codeAny_of_tree ?_
 show wpAny _ A.in1 (do checkBuiltinCall "reversed.__new__" ⟨[.type "reversed",.ref r],[]⟩;again (.builtin "reversed.__new__" ⟨[.type "reversed",.ref r],[]⟩)) _ _ s
 refine wpAny_bind (wpAny_of_eq (F.newCall_reversed_1 _) (wpAny_pure ⟨plainId_quiet F.plain_reversed_new _,codeAny_builtin F.entry_reversed_new ?_⟩))
 rw [Around.under_plainId F.plain_reversed_new _]
 unfold Builtin.«reversed.__new__»
 refine wpAny_bind (wpAny_of_eq (newClass_reversed _) ?_)
 try dsimp only
 k_extra "03j"
 k_extra "03j"
 try dsimp only
 refine wpAny_bind (wpAny_specialOf hT F.slot_range_reversed.lookup ?_)
 try dsimp only
 refine wpAny_bind (wpAny_of_eq (F.slot_range_reversed.bind _) ?_)
 try dsimp only
 first
 |rw [if_neg (show¬((Value.builtin "range.__reversed__"==Value.none)=true) from Bool.false_ne_true)]
 |(show wpAny _ _ (if(Value.builtin "range.__reversed__"==Value.none)=true then _ else _) _ _ _;rw [if_neg (show¬((Value.builtin "range.__reversed__"==Value.none)=true) from Bool.false_ne_true)])
 k_extra "02T"
 refine wpAny_bind (m:=runValue (.call (.builtin "range.__reversed__") ⟨[.ref r],[]⟩)) (show wpAny _ _ (call (.builtin "range.__reversed__") [.ref r]) _ _ _ from CW hr hn ?_)
 first
 |exact wpAny_pure h
 |exact wpAny_bind (wpAny_pure (wpAny_pure h))
theorem CM {r:Addr}{n:Nat}{t u v:Tok}{Q:Value→Shared→Prop}(hr:IsRange s.heap r 0 n 1 t u v)(hn:n≤1000)
  (h:Q (.ref s.heap.objs.size) {s with heap:=s.heap.push (AJ ((n:Int)-1) n (-1))}):wpAny (model prog w) A (call (.type "reversed") [.ref r]) Q E s:=by
 refine callType_other (U:= "range_iterator") (Q₁:=fun obj s₁=>obj= .ref s.heap.objs.size∧s₁={s with heap:=s.heap.push (AJ ((n:Int)-1) n (-1))}) (by decide+kernel) F.create_reversed ⟨_,_,F.mro_reversed⟩ F.made_reversed DU (F.typeCall_reversed_1 _) (CV hr hn ⟨rfl,rfl⟩) ?_
 rintro obj s₁ ⟨rfl,rfl⟩
 exact⟨⟨_,Heap.get?_push_size _ rfl,rfl⟩,h⟩
end
section
variable{prog:Program}{w:World}{A:Around}{E:Value→Shared→Prop}{s:Shared}{g:Heap}{L:Addr}{m:Str→Option Value}{news:List (Addr×Obj)}
theorem Gi {r:Addr}{b:Int}{t u v:Tok}{Q:Value→Shared→Prop}(F:Fr g L s.heap m)(N:News g L s.heap news)(hr:IsRange s.heap r 0 b 1 t u v)(h0:0≤b)(hn:b≤1000)
  (h:∀I h',Fr g L h' m→News g L h' ((I,AJ (b-1) b (-1))::news)→(∀p∈news,p.1<I)→Q (.ref I) {s with heap:=h'}):wpAny (model prog w) A (call (.type "reversed") [.ref r]) Q E s:=by
 obtain⟨n,rfl⟩:=Int.eq_ofNat_of_zero_le h0
 exact CM hr (by exact Int.ofNat_le.mp hn) (h _ _ (F.push _) (N.push F _) fun p hp=>Heap.lt_size (N p hp).1)
theorem JW {a b:Int}{t u:Tok}{Q:Value→Shared→Prop}(hb:0<b∧b<1073741824)(h:Q (.int (a/b) s.toks) {s with toks:=s.toks+1}):wpAny (model prog w) A (binaryOp .FloorDiv (.int a t) (.int b u)) Q E s:=by
 refine PyProof.Rows.floordiv_int (by exact Ar.q245 hb) ?_ (Or.inl (PyProof.noPylong_small (by exact Ar.q174 hb)))
 rw [Int.fdiv_eq_ediv_of_nonneg _ (by exact Ar.q255 hb)];exact h
theorem PW {a b:Int}{t u:Tok}{Q:Value→Shared→Prop}(hb:0<b∧b<1073741824)(h:Q (.int (a % b) s.toks) {s with toks:=s.toks+1}):wpAny (model prog w) A (binaryOp .Mod (.int a t) (.int b u)) Q E s:=by
 refine PyProof.Rows.mod_int' (by exact Ar.q245 hb) ?_
 rw [Int.fmod_eq_emod_of_nonneg _ (by exact Ar.q255 hb)];exact h
theorem BK {I:Addr}{x left step:Int}{rest:List (Addr×Obj)}{Q:Option Value→Shared→Prop}(hh:A.handled=none)(F:Fr g L s.heap m)(N:News g L s.heap ((I,AJ x left step)::rest))(hne:∀p∈rest,p.1≠I)
  (h1:0<left→∀h',Fr g L h' m→News g L h' ((I,AJ (x+step) (left-1) step)::rest)→Q (some (.int x s.toks)) {s with heap:=h',toks:=s.toks+1})
  (h2:left≤0→∀h',Fr g L h' m→News g L h' rest→Q none {s with heap:=h'}):wpAny (model prog w) A (pyNext (.ref I)) Q E s:=by
 have hI:=N _ (.head _)
 by_cases hl:0<left
 ·refine wpAny_pyNext_range_item hI.1 hl fun h' hit' hs'=>?_
  exact h1 hl h' (F.change hs' hI.2.1 hI.2.2) fun p hp=>by
   k_extra "02"
   ·exact⟨hit',hI.2⟩
   ·k_extra "0u"
 ·refine wpAny_pyNext_range_end hh hI.1 (by exact Int.not_lt.mp hl) fun h' he'=>?_
  refine h2 (by exact Int.not_lt.mp hl) h' ⟨?_,fun b o e=>he' b o (fun q=>?_) (F.keep b o e),F.above⟩ fun p hp=>⟨he' _ _ (hne p hp) (N p (.tail _ hp)).1,(N p (.tail _ hp)).2⟩
  ·k_extra "02d"
   k_extra "01C"
  ·have:=hI.2.2
   k_extra "048"
theorem Gt {I:Addr}{x left step:Int}{Q:Value→Shared→Prop}(N:News g L s.heap news)(hm:(I,AJ x left step)∈news)(h:Q (.ref I) s):wpAny (model prog w) A (pyIter (.ref I)) Q E s:=
 wpAny_pyIter_rangeiter (N _ hm).1 h
end
section
variable{prog:Program}{w:World}{A:Around}{E:Value→Shared→Prop}{s:Shared}{g:Heap}{L d:Addr}{m:Str→Option Value}{news news':List (Addr×Obj)}{n:Nat}
theorem K0 {p:List Addr}{b:Addr}{Q:Value→Shared→Prop}(F:Fr g L s.heap m)(N:News g L s.heap news)(U:Upd d (rl (p++ [b]) n) (rl p (n+1)) news news')(hz:p.length≤1000)
  (h:∀h',Fr g L h' m→News g L h' news'→Q (.ref b) {s with heap:=h'}):wpAny (model prog w) A (call (.builtin "list.pop") [.ref d]) Q E s:=by
 refine kl_pop F N (p:=p.map Value.ref) (y:=.ref b) ?_ U (by simp [sizeLine_eq];exact Ar.upS ‹_› (by rfl)) h
 have:=kpa_last (.ref b) (p.map Value.ref)
 simpa using this
theorem Ho {as:List Addr}{Q:Bool→Shared→Prop}(N:News g L s.heap news)(hm:(d,rl as n)∈news)(hs:as.length≤1000)(h:Q (decide (0<as.length)) {s with toks:=s.toks+1+1}):
  wpAny (model prog w) A (truthy (.ref d)) Q E s:=by
 k_extra "01e"
 refine wpAny_truthy_list hl (by simp;exact Ar.zup ‹_› (by decide)) ?_
 have e:(!(as.map Value.ref).toArray.isEmpty)=decide (0<as.length):=by
  cases as with
  |nil=>rfl
  |cons a r=>simp
 rw [e];exact h
end
section
variable{prog:Program}{w:World}{A:Around}{s:Shared}{K:Frag}{R:Result→Shared→Prop}{name qual:Str}{params:Arguments}{body:List Stmt}{scope:Scope}{dV kV doc pm cdv ct oc:Value}{an od:Option Addr}{osl:Array (Option Value)}{f:Addr}{args:Args}{binds:List (Str×Value)}
 {p:Program} {loose:List Str} {mz:ExcName→Option Value} {mg mb:Str→Option Value} {hb base:Heap} {ou:List Env}
end
section
variable{prog:Program}{w:World}{A:Around}{s:Shared}{K:Frag}{R:Result→Shared→Prop}{name qual:Str}{params:Arguments}{body:List Stmt}{scope:Scope}{dV kV doc pm cdv ct oc:Value}{an od:Option Addr}{osl:Array (Option Value)}{f:Addr}{args:Args}{binds:List (Str×Value)}
 {p:Program} {loose:List Str} {mz:ExcName→Option Value} {mg mb:Str→Option Value} {hb:Heap}
theorem C0 (mu:List (Addr×Obj))(kb:hb.StaysIn s.heap)(X:K.In hb)(T:Top p loose mz mg mb hb)(hm:∀q∈mu,s.heap.get? q.1=some q.2∧hb.get? q.1=none)
  (ho:K.lookup f=some ⟨oc,od,.func (fnOf name qual params body scope dV kV doc pm an cdv ct),osl⟩) (hcd:codeIn K cdv qual=true) (hroom:A.depth<recursionLimit)
  (hbind:BindsTo s (fnOf name qual params body scope dV kV doc pm an cdv ct) args binds) (hkind:(binds.all fun y=>scope.names.lookup y.1==some .local||scope.names.lookup y.1==some .cell)=true)
  (hnd:((cellsFrom 0 scope.names []).map (·.1)).Nodup)
  (h:∀g L' h₁ tk cells,Fr g L' h₁ (bindL (envOfC qual scope L' f cdv).kindOf binds fun _=>none)→News g L' h₁ (cells++mu)→CellsAre (bindC (envOfC qual scope L' f cdv).kindOf binds fun _=>none) (cellsFrom (L'+1) scope.names []) cells→K.In g→Top p loose mz mg mb g→(∀b o,s.heap.get? b=some o→b∉mu.map (·.1)→g.get? b=some o)→
   (∀q∈mu,q.1<L')→s.heap.objs.size≤L'→
   wpAny (model prog w) (A.deeper (envOfC qual scope L' f cdv)) (execs body (envOfC qual scope L' f cdv))
    (fun fl s'=>R (.ok (.ret (match fl with|.ret v=>v|_=>.none))) s')
    (fun e s'=>wpAny (model prog w) (A.deeper (envOfC qual scope L' f cdv)) (leaving (envOfC qual scope L' f cdv) e) (fun _ s''=>R (.error e) s'') (fun e' s''=>R (.error e') s'') s')
    {s with heap:=h₁,toks:=tk})
  (hco:scope.isCoroutine=false) (hgen:scope.isGenerator=false) (hk:scope.kind= .function):
  codeAny (model prog w) A (.call (.ref f) args) R s:=by
 have off:∀b o,hb.get? b=some o→b∉mu.map (·.1):=fun b o e q=>by
  k_extra "020"
  rw [(hm x hq).2] at e;cases e
 k_extra "01O"
 refine codeAny_call_function (fd:=fnOf name qual params body scope dV kV doc pm an cdv ct) hroom (kb _ _ (X _ _ ho)) rfl hco hgen rfl (codeRec_of (X.keeps kb) hcd) (hbind _ _ _ _ ?_)
 refine wpAny_newFunctionEnv_cells hk (kindsX hkind _) fun env' he s' x=>?_
 subst he
 refine⟨(T.nolimit.keeps kb).keeps x.toInCall.keep,codeAny_func ?_⟩
 obtain⟨h₁,tk,rfl,_⟩:=x.done
 have hk₁:=x.toInCall.keep
 k_extra "0o"
 refine h _ s.heap.objs.size h₁ tk cells ⟨x.toInCall.ns,fun b o e=>hk₁ b o (of_hideAll _ e),Nat.le_of_eq (hideAll_size _ _)⟩ (fun p hp=>?_) Y (X.keeps st) (T.keeps st) (fun b o e n=>hideAll_get _ e n) (fun q hq=>Heap.lt_size (hm q hq).1) (Nat.le_refl _)
 k_extra "01z"
 ·refine⟨(NC p hp).1,(NC p hp).2.1,?_⟩
  cases q:(hideAll s.heap (mu.map (·.1))).get? p.1 with
  |none=>rfl
  |some o=>have:=of_hideAll _ q;rw [(NC p hp).2.2] at this;cases this
 ·k_extra "01g"
end
section
variable{prog:Program}{w:World}
noncomputable abbrev AT (a b:Value):Obj:={cls:=.type "tuple",data:=.seq #[a,b]}
noncomputable abbrev BO (f0:Value)(f1:Bool)(TI TO:Addr):Obj:={cls:=.type "zip",data:=.fields #[f0,.bool f1,.bool false,.ref TI,.ref TO]}
theorem GV (a b:Value):
  MeetsIn prog w (Builtin.«zip.__new__» ⟨[.type "zip",a,b],[]⟩) (fun A R s=>wpAny (model prog w) A.in1 (pyIter a) (fun i1 s1=>wpAny (model prog w) A.in1 (pyIter b) (fun i2 s2=>
   R (.ok (.ret (.ref (s2.heap.objs.size+2)))) {s2 with heap:=((s2.heap.push (AT i1 i2)).push (AT .none .none)).push (BO .none false s2.heap.objs.size (s2.heap.objs.size+1))})
   (fun e s'=>R (.error e) s') s1) (fun e s'=>R (.error e) s') s):=
 .of_wp fun A R s h=>by
  obtain⟨hp,g,d,tk,os⟩:=s
  have hsub:=sub_zip
  have ha:∀{Q':Value→Shared→Prop},(∀i1 s1,wpAny (model prog w) A.in1 (pyIter b) (fun i2 s2=>
   R (.ok (.ret (.ref (s2.heap.objs.size+2)))) {s2 with heap:=((s2.heap.push (AT i1 i2)).push (AT .none .none)).push (BO .none false s2.heap.objs.size (s2.heap.objs.size+1))})
   (fun e s'=>R (.error e) s') s1→Q' i1 s1)→wpAny (model prog w) A.in1 (pyIter a) Q' (fun e s'=>R (.error e) s') ⟨hp,g,d,tk,os⟩:=fun hq=>wpAny_mono h hq fun _ _ e=>e
  wp_walk using(ha)
  intro i1 s1 h1
  obtain⟨hp1,g1,d1,tk1,os1⟩:=s1
  have hb:∀{Q':Value→Shared→Prop},(∀i2 s2,R (.ok (.ret (.ref (s2.heap.objs.size+2)))) {s2 with heap:=((s2.heap.push (AT i1 i2)).push (AT .none .none)).push (BO .none false s2.heap.objs.size (s2.heap.objs.size+1))}→Q' i2 s2)→
   wpAny (model prog w) A.in1 (pyIter b) Q' (fun e s'=>R (.error e) s') ⟨hp1,g1,d1,tk1,os1⟩:=fun hq=>wpAny_mono h1 hq fun _ _ e=>e
  wp_walk using(hb)
  intro i2 s2 h2
  obtain⟨hp2,g2,d2,tk2,os2⟩:=s2
  wp_walk
  refine⟨_,rfl,?_⟩
  simp only [Heap.size_push]
  exact h2
theorem Dv {M:Model}{A:Around}{s:Shared}{a:Addr}{Q:Option Obj→Shared→Prop}{E:Value→Shared→Prop}(h:Q (s.heap.get? a) s):wpAny M A (loadIfAlive a) Q E s:=fun _ _ _=>h
noncomputable def Draws (prog:Program)(w:World)(A:Around)(it:Value)(wr:List Addr)(pre:Heap→Prop)(post:Value→Heap→Prop):Prop:=
 ∀(s:Shared) (Q:Value→Shared→Prop) (E:Value→Shared→Prop),pre s.heap→(∀v h' tk,post v h'→(∀b o,b∉wr→s.heap.get? b=some o→h'.get? b=some o)→Q v {s with heap:=h',toks:=tk})→wpAny (model prog w) A (Builtin.SmallTypes.nextOf it) Q E s
noncomputable def HW (prog:Program)(w:World)(A:Around)(it:Value)(wr:List Addr)(pre:Heap→Prop):Prop:=
 ∀(s:Shared) (Q:Value→Shared→Prop) (E:Value→Shared→Prop),pre s.heap→(∀h' tk e,(∃o,h'.get? e=some o∧o.cls= .type "StopIteration")→(∀b o,b∉wr→s.heap.get? b=some o→h'.get? b=some o)→E (.ref e) {s with heap:=h',toks:=tk})→wpAny (model prog w) A (Builtin.SmallTypes.nextOf it) Q E s
theorem Cg {A:Around}{li l:Addr}{k:Nat}{xs:Array Value}{x:Value}(hx:xs[k]?=some x):
  Draws prog w A (.ref li) [li] (fun h=>h.IsListIter li l k∧h.IsList l xs) (fun v h=>v=x∧h.IsListIter li l (k+1)):=fun s Q E hp hq=>
 wpAny_nextOf_list_item hp.1 hp.2 hx fun h' hi hs=>hq x h' s.toks ⟨rfl,hi⟩ fun b o hb e=>hs.extBut b o (fun q=>hb (by rw [q];exact .head _)) e
theorem Dz {A:Around}(hh:A.handled=none){li l:Addr}{k:Nat}{xs:Array Value}(hx:xs[k]?=none):
  HW prog w A (.ref li) [li] (fun h=>h.IsListIter li l k∧h.IsList l xs):=fun s Q E hp hq=>
 wpAny_nextOf_list_end hh hp.1 hp.2 hx fun h' e hs he=>hq h' s.toks e he fun b o hb e=>hs b o (fun q=>hb (by rw [q];exact .head _)) e
theorem Es {A:Around}{s:Shared}{z TI TO a:Addr}{f1:Bool}{i1 i2:Value}{oa:Obj}{wr1 wr2:List Addr}{p1 p2:Heap→Prop}{q1 q2:Value→Heap→Prop}{Q:Value→Shared→Prop}{E:Value→Shared→Prop}
  (hz:s.heap.get? z=some (BO (rawInt a) f1 TI TO)) (hTI:s.heap.get? TI=some (AT i1 i2)) (ha:s.heap.get? a=some oa)
  (d1:Draws prog w A.in1 i1 wr1 p1 q1) (d2:Draws prog w A.in1 i2 wr2 p2 q2)
  (hp1:∀h1,(∀b o,b≠z→s.heap.get? b=some o→h1.get? b=some o)→p1 h1)
  (hp2:∀h1 v,q1 v h1→(∀b o,b≠z→b∉wr1→s.heap.get? b=some o→h1.get? b=some o)→p2 h1)
  (hz1:z∉wr1) (hz2:z∉wr2)
  (hQ:∀x y h1 h' tk,q1 x h1→(∀b o,b∉wr2→h1.get? b=some o→h'.get? b=some o)→q2 y h'→(∀b o,b≠z→b∉wr1→b∉wr2→s.heap.get? b=some o→h'.get? b=some o)→h'.get? z=some (BO (rawInt a) true TI TO)→
   Q (.ref h'.objs.size) {s with heap:=h'.push (AT x y),toks:=tk}):
  wpAny (model prog w) A.in1 (Builtin.«zip.__next__» ⟨[.ref z],[]⟩) (fun fin s'=>∃v,fin= .done (.ret v)∧Q v s') E s:=by
 k_extra "02W"
 k_extra "01h"
 k_extra "02X"
 k_extra "01D"
 k_extra "02G"
 k_extra "010"
 have rest:∀h1:Heap,(∀b o,b≠z→s.heap.get? b=some o→h1.get? b=some o)→h1.get? z=some (BO (rawInt a) true TI TO)→
   wpAny (model prog w) A.in1 (Builtin.SmallTypes.nextOf i1) (fun x s1=>wpAny (model prog w) A.in1 (Builtin.SmallTypes.nextOf i2) (fun y s2=>Q (.ref s2.heap.objs.size) {s2 with heap:=s2.heap.push (AT x y)}) E s1) E {s with heap:=h1}:=fun h1 k1 hz1'=>by
  refine d1 _ _ _ (hp1 h1 k1) fun x h2 tk2 q2' k2=>?_
  refine d2 _ _ _ (hp2 h2 x q2' fun b o hb hw e=>k2 b o hw (k1 b o hb e)) fun y h3 tk3 q3 k3=>?_
  exact hQ x y h2 h3 tk3 q2' k3 q3 (fun b o hb hw1 hw2 e=>k3 b o hw2 (k2 b o hw1 (k1 b o hb e))) (k3 _ _ hz2 (k2 _ _ hz1 hz1'))
 k_extra "03P"
 k_extra "034"
 k_extra "03T"
 k_extra "041"
 refine wpAny_bind (Dv ?_)
 rw [Int.toNat_natCast,ha]
 show wpAny _ _ (field (.ref z) 1>>=_) _ _ _
 k_extra "03U"
 cases f1 with
 |true=>
  k_extra "01I"
  k_extra "02A"
  k_extra "021"
  k_extra "05q"
  k_extra "035"
  k_extra "01i"
  k_extra "0Q"
  refine wpAny_bind (wpAny_mono (rest s.heap (fun _ _ _ e=>e) hz) (fun x s1 h2=>wpAny_pure (wpAny_pure ?_)) fun _ _ e=>e)
  refine wpAny_bind (wpAny_bind (wpAny_holding ?_))
  k_extra "02O"
  k_extra "02e"
  k_extra "02A"
  k_extra "025"
 |false=>
  rw [if_pos (by decide)]
  k_extra "02v"
  k_extra "021"
  k_extra "05q"
  k_extra "035"
  k_extra "01i"
  k_extra "0Q"
  refine wpAny_bind (wpAny_mono (rest h1 (fun b o hb e=>hs1.extBut b o hb e) hz1') (fun x s1 h2=>wpAny_pure (wpAny_pure ?_)) fun _ _ e=>e)
  refine wpAny_bind (wpAny_bind (wpAny_holding ?_))
  k_extra "02O"
  k_extra "02e"
  k_extra "02A"
  k_extra "025"
theorem EQ {A:Around}{s:Shared}{z TI TO a:Addr}{f1:Bool}{i1 i2:Value}{oa:Obj}{wr1:List Addr}{p1:Heap→Prop}{Q:Fin→Shared→Prop}{E:Value→Shared→Prop}
  (hz:s.heap.get? z=some (BO (rawInt a) f1 TI TO)) (hTI:s.heap.get? TI=some (AT i1 i2)) (ha:s.heap.get? a=some oa)
  (d1:HW prog w A.in1 i1 wr1 p1)
  (hp1:∀h1,(∀b o,b≠z→s.heap.get? b=some o→h1.get? b=some o)→p1 h1)
  (hE:∀h' tk e,(∃o,h'.get? e=some o∧o.cls= .type "StopIteration")→(∀b o,b≠z→b∉wr1→s.heap.get? b=some o→h'.get? b=some o)→E (.ref e) {s with heap:=h',toks:=tk}):
  wpAny (model prog w) A.in1 (Builtin.«zip.__next__» ⟨[.ref z],[]⟩) Q E s:=by
 k_extra "02W"
 k_extra "01h"
 k_extra "02X"
 k_extra "01D"
 k_extra "02G"
 k_extra "010"
 k_extra "03P"
 k_extra "034"
 k_extra "03T"
 k_extra "041"
 refine wpAny_bind (Dv ?_)
 rw [Int.toNat_natCast,ha]
 show wpAny _ _ (field (.ref z) 1>>=_) _ _ _
 k_extra "03U"
 cases f1 with
 |true=>
  k_extra "01I"
  k_extra "02A"
  k_extra "021"
  k_extra "05q"
  k_extra "035"
  k_extra "01i"
  k_extra "0Q"
  exact wpAny_bind (d1 _ _ _ (hp1 _ fun _ _ _ e=>e) fun h' tk e he k=>hE h' tk e he fun b o _ hw x=>k b o hw x)
 |false=>
  rw [if_pos (by decide)]
  k_extra "02v"
  k_extra "021"
  k_extra "05q"
  k_extra "035"
  k_extra "01i"
  k_extra "0Q"
  exact wpAny_bind (d1 _ _ _ (hp1 h1 fun b o hb e=>hs1.extBut b o hb e) fun h' tk e he k=>hE h' tk e he fun b o hb hw x=>k b o hw (hs1.extBut b o hb x))
theorem Ck {A:Around}{s:Shared}{z TI TO:Addr}{f1:Bool}{i1 i2 c1 c2:Value}{wr1 wr2:List Addr}{p1 p2:Heap→Prop}{q1 q2:Value→Heap→Prop}{Q:Value→Shared→Prop}{E:Value→Shared→Prop}
  (hz:s.heap.get? z=some (BO .none f1 TI TO)) (hTI:s.heap.get? TI=some (AT i1 i2)) (hTO:s.heap.get? TO=some (AT c1 c2)) (hOz:TO≠z)
  (d1:Draws prog w A.in1 i1 wr1 p1 q1) (d2:Draws prog w A.in1 i2 wr2 p2 q2)
  (hp1:∀h1,(∀b o,b≠z→s.heap.get? b=some o→h1.get? b=some o)→p1 h1)
  (hp2:∀(h1 h2:Heap) v,q1 v h1→(∀b o,b≠TO→h1.get? b=some o→h2.get? b=some o)→(∀b o,b≠z→b≠TO→b∉wr1→s.heap.get? b=some o→h2.get? b=some o)→p2 h2)
  (hz1:z∉wr1) (hz2:z∉wr2) (hO1:TO∉wr1) (hO2:TO∉wr2)
  (hQ:∀x y (h1 h2 h3 h4 h5:Heap) tk,q1 x h1→(∀b o,b≠TO→h1.get? b=some o→h2.get? b=some o)→(∀b o,b∉wr2→h2.get? b=some o→h3.get? b=some o)→q2 y h3→(∀b o,b≠TO→h3.get? b=some o→h4.get? b=some o)→
   h4.get? TO=some (AT x y)→(∀b o,b≠z→b≠TO→b∉wr1→b∉wr2→s.heap.get? b=some o→h4.get? b=some o)→(∀b o,b≠z→h4.get? b=some o→h5.get? b=some o)→h5.get? z=some (BO (rawInt h4.objs.size) false TI TO)→h5.get? h4.objs.size=some (AT x y)→
   Q (.ref h4.objs.size) {s with heap:=h5,toks:=tk}):
  wpAny (model prog w) A.in1 (Builtin.«zip.__next__» ⟨[.ref z],[]⟩) (fun fin s'=>∃v,fin= .done (.ret v)∧Q v s') E s:=by
 k_extra "02W"
 k_extra "01h"
 k_extra "02X"
 k_extra "01D"
 k_extra "02G"
 k_extra "010"
 k_extra "03P"
 k_extra "034"
 k_extra "03f"
 simp only [if_true]
 k_extra "02T"
 k_extra "042"
 k_extra "02Q"
 replace hz₁:h₁.get? z=some (BO .ellipsis f1 TI TO):=hz₁
 k_extra "03P"
 k_extra "02U"
 k_extra "03m"
 k_extra "0Q"
 refine wpAny_bind (d1 _ _ _ (hp1 h₁ fun b o hb e=>hs₁.extBut b o hb e) fun x h₂ tk₂ q2' k2=>wpAny_pure ?_)
 have hTO₂:h₂.get? TO=some (AT c1 c2):=k2 _ _ hO1 (hs₁.extBut _ _ hOz hTO)
 refine wpAny_bind (wpAny_seqItems hTO₂ rfl ?_)
 refine wpAny_bind (wpAny_updateSeq_pair (T:=TO) (s:={s with heap:=h₂,toks:=tk₂}) hTO₂ fun h₃ hTO₃ hs₃=>?_)
 replace hTO₃:h₃.get? TO=some (AT x c2):=hTO₃
 refine wpAny_bind (wpAny_letGo (wpAny_pure ?_))
 k_extra "03m"
 k_extra "02O"
 have k3:∀b o,b≠z→b≠TO→b∉wr1→s.heap.get? b=some o→h₃.get? b=some o:=fun b o hb ho hw e=>hs₃.extBut b o ho (k2 b o hw (hs₁.extBut b o hb e))
 refine wpAny_bind (d2 _ _ _ (hp2 h₂ h₃ x q2' (fun b o hb e=>hs₃.extBut b o hb e) k3) fun y h₄ tk₄ q4 k4=>wpAny_pure ?_)
 have hTO₄:h₄.get? TO=some (AT x c2):=k4 _ _ hO2 hTO₃
 refine wpAny_bind (wpAny_seqItems hTO₄ rfl ?_)
 refine wpAny_bind (wpAny_updateSeq_pair (T:=TO) (s:={s with heap:=h₄,toks:=tk₄}) hTO₄ fun h₅ hTO₅ hs₅=>?_)
 replace hTO₅:h₅.get? TO=some (AT x y):=hTO₅
 refine wpAny_bind (wpAny_letGo (wpAny_pure (wpAny_pure ?_)))
 refine wpAny_bind (wpAny_seqItems hTO₅ rfl ?_)
 refine wpAny_bind (wpAny_newTuple ?_ (show 2≤_ by decide+kernel))
 have hz₅:h₅.get? z=some (BO .ellipsis f1 TI TO):=hs₅.extBut _ _ hOz.symm (k4 _ _ hz2 (hs₃.extBut _ _ hOz.symm (k2 _ _ hz1 hz₁)))
 have hzlt:z<h₅.objs.size:=Heap.lt_size hz₅
 show wpAny _ _ (Builtin.SmallTypes.ownedTupleHandOut (.ref z) (.ref h₅.objs.size)>>=_) _ _ _
 k_extra "03P"
 unfold Builtin.SmallTypes.ownedTupleHandOut
 have hz₆:(h₅.push (AT x y)).get? z=some (BO .ellipsis f1 TI TO):=Heap.get?_push_of_some _ hz₅
 refine wpAny_bind (wpAny_setField_rec (s:={s with heap:=h₅.push (AT x y),toks:=tk₄}) hz₆ (by simp) fun h₇ hz₇ hs₇=>?_)
 replace hz₇:h₇.get? z=some (BO (rawInt h₅.objs.size) f1 TI TO):=hz₇
 refine wpAny_setField_rec (s:={s with heap:=h₇,toks:=tk₄}) hz₇ (by simp) fun h₈ hz₈ hs₈=>?_
 replace hz₈:h₈.get? z=some (BO (rawInt h₅.objs.size) false TI TO):=hz₈
 have up:∀c o,c≠z→h₅.get? c=some o→h₈.get? c=some o:=fun c o c1 e=>hs₈.extBut _ _ c1 (hs₇.extBut _ _ c1 (Heap.get?_push_of_some _ e))
 have hT₈:h₈.get? h₅.objs.size=some (AT x y):=hs₈.extBut _ _ (Nat.ne_of_gt hzlt) (hs₇.extBut _ _ (Nat.ne_of_gt hzlt) (Heap.get?_push_size _ rfl))
 refine wpAny_pure ⟨_,rfl,?_⟩
 exact hQ x y h₂ h₃ h₄ h₅ h₈ tk₄ q2' (fun b o hb e=>hs₃.extBut b o hb e) k4 q4 (fun b o hb e=>hs₅.extBut b o hb e) hTO₅ (fun b o hb ho hw1 hw2 e=>hs₅.extBut b o ho (k4 b o hw2 (k3 b o hb ho hw1 e))) up hz₈ hT₈
theorem CX {A:Around}{s:Shared}{z TI TO:Addr}{f1:Bool}{i1 i2:Value}{wr1:List Addr}{p1:Heap→Prop}{Q:Fin→Shared→Prop}{E:Value→Shared→Prop}
  (hz:s.heap.get? z=some (BO .none f1 TI TO)) (hTI:s.heap.get? TI=some (AT i1 i2))
  (d1:HW prog w A.in1 i1 wr1 p1) (hz1:z∉wr1)
  (hp1:∀h1,(∀b o,b≠z→s.heap.get? b=some o→h1.get? b=some o)→p1 h1)
  (hE:∀h' tk e,(∃o,h'.get? e=some o∧o.cls= .type "StopIteration")→(∀b o,b≠z→b∉wr1→s.heap.get? b=some o→h'.get? b=some o)→E (.ref e) {s with heap:=h',toks:=tk}):
  wpAny (model prog w) A.in1 (Builtin.«zip.__next__» ⟨[.ref z],[]⟩) Q E s:=by
 k_extra "02W"
 k_extra "01h"
 k_extra "02X"
 k_extra "01D"
 k_extra "02G"
 k_extra "010"
 k_extra "03P"
 k_extra "034"
 k_extra "03f"
 simp only [if_true]
 k_extra "02T"
 k_extra "042"
 k_extra "02Q"
 replace hz₁:h₁.get? z=some (BO .ellipsis f1 TI TO):=hz₁
 k_extra "03P"
 k_extra "02U"
 k_extra "03m"
 k_extra "0Q"
 refine wpAny_bind (d1 _ _ _ (hp1 h₁ fun b o hb e=>hs₁.extBut b o hb e) fun h₂ tk₂ e he k2=>?_)
 obtain⟨oe,hoe,hce⟩:=he
 have hz₂:h₂.get? z=some (BO .ellipsis f1 TI TO):=k2 _ _ hz1 hz₁
 have hez:e≠z:=fun x=>by subst x;rw [hz₂] at hoe;cases hoe;simp at hce
 exact wpAny_setField_rec (s:={s with heap:=h₂,toks:=tk₂}) hz₂ (by simp) fun h₃ _ hs₃=>hE h₃ tk₂ e ⟨oe,hs₃.extBut _ _ hez hoe,hce⟩ fun b o hb hw x=>hs₃.extBut b o hb (k2 b o hw (hs₁.extBut b o hb x))
end
section
variable{prog:Program}{w:World}{A:Around}{E:Value→Shared→Prop}{s:Shared}
theorem JX {I S:Addr}{res:Value}{R:Result→Shared→Prop}(J:Nat→List Value→Shared→Prop)
  (turn:∀n acc s₁,J n acc s₁→acc.length≤1000∧wpAny (model prog w) A.in1 (pyNext (.ref I)) (fun r s₂=>(∀o,s₁.heap.get? S=some o→s₂.heap.get? S=some o)∧match r with
   |none=>∀c,s₂.heap.get? S=some (listOf acc.toArray c)→R (.ok (.ret res)) s₂
   |some v=>∃n',n'<n∧∀h',(∀b o,b≠S→s₂.heap.get? b=some o→h'.get? b=some o)→(∃c,h'.get? S=some (listOf (acc++ [v]).toArray c))→J n' (acc++ [v]) {s₂ with heap:=h'}) (fun e s'=>R (.error e) s') s₁):
  ∀(n:Nat) (acc:List Value) (s₁:Shared) (c:Nat),J n acc s₁→s₁.heap.get? S=some (listOf acc.toArray c)→codeAny (model prog w) A (.builtin "list.extend.loop" ⟨[.ref S,.ref I,res],[]⟩) R s₁:=by
 intro n
 induction n using Nat.strongRecOn with
 |ind n ih=>
  intro acc s₁ c hJ hS
  obtain⟨hlen,t⟩:=turn n acc s₁ hJ
  refine codeAny_builtin F.entry_extend_loop ?_
  rw [Around.under_plainId F.plain_extend_loop _]
  show wpAny _ A.in1 (pyNext (.ref I)>>=_) _ _ s₁
  refine wpAny_bind (wpAny_mono t (fun r s₂ hr=>?_) fun _ _ e=>e)
  obtain⟨kS,hr⟩:=hr
  have hS':=kS _ hS
  cases r with
  |none=>exact wpAny_pure (hr c hS')
  |some v=>
   obtain⟨n',hn,hJ'⟩:=hr
   show wpAny _ A.in1 (updateSeq S (·.push v)>>=_) _ _ _
   refine wpAny_bind (wpAny_updateSeq hS' rfl (wpAny_pure ⟨plainId_quiet F.plain_extend_loop _,?_⟩) (by rw [List.size_toArray,sizeLine_eq];exact Ar.upS ‹_› (by rfl)) (by rw [Array.size_push,List.size_toArray,sizeLine_eq];exact Ar.up ‹_› (by rfl)))
   obtain⟨c',hc'⟩:∃c',(s₂.heap.update S (Obj.mapSeq (·.push v))).get? S=some (listOf (acc++ [v]).toArray c'):=by
    refine⟨c+1,(Heap.get?_update_self _ hS' rfl).trans ?_⟩
    simp [Obj.mapSeq]
   exact ih n' hn (acc++ [v]) _ c' (hJ' _ (fun b o hb e=>(Heap.get?_update_other _ _ (Ne.symm hb)).trans e) ⟨c',hc'⟩) hc'
theorem IQ {I:Addr}{T:Value}{Q:List Value→Shared→Prop}(J:Nat→List Value→Shared→Prop){n₀:Nat}
  (ht:Looks (model prog w) s.heap (typeOf (.ref I)) T) (h1:(T==Value.type "list")=false) (h2:(T==Value.type "tuple")=false)
  (hlen:Looks (model prog w) s.heap (specialOf (.ref I) "__len__") none) (hhint:Looks (model prog w) s.heap (specialOf (.ref I) "__length_hint__") none) (hI:I<s.heap.objs.size)
  (iter:wpAny (model prog w) A.in1 (pyIter (.ref I)) (fun it s₂=>it= .ref I∧(∀b o,(s.heap.push (listOf #[] 0)).get? b=some o→s₂.heap.get? b=some o)∧∀h',(∀b o,b≠s.heap.objs.size→s₂.heap.get? b=some o→h'.get? b=some o)→(∃c,h'.get? s.heap.objs.size=some (listOf #[] c))→J n₀ [] {s₂ with heap:=h'}) E {s with heap:=s.heap.push (listOf #[] 0)})
  (turn:∀n acc s₁,J n acc s₁→acc.length≤1000∧wpAny (model prog w) A.in1 (pyNext (.ref I)) (fun r s₂=>(∀o,s₁.heap.get? s.heap.objs.size=some o→s₂.heap.get? s.heap.objs.size=some o)∧match r with
   |none=>Q acc s₂
   |some v=>∃n',n'<n∧∀h',(∀b o,b≠s.heap.objs.size→s₂.heap.get? b=some o→h'.get? b=some o)→(∃c,h'.get? s.heap.objs.size=some (listOf (acc++ [v]).toArray c))→J n' (acc++ [v]) {s₂ with heap:=h'}) E s₁):wpAny (model prog w) A (collect (.ref I)) Q E s:=by
 have hSI:s.heap.objs.size≠I:=Nat.ne_of_gt hI
 unfold collect
 refine wpAny_bind (wpAny_runValue (codeAny_builtin F.entry_proto_collect ?_))
 rw [Around.under_plainId F.plain_proto_collect _]
 show wpAny _ A.in1 (newList []>>=fun l=>again (.builtin "list.__iadd__" ⟨[l,.ref I],[]⟩)) _ _ s
 refine wpAny_bind (wpAny_newObj_type ?_)
 refine wpAny_pure ⟨plainId_quiet F.plain_list_iadd _,codeAny_builtin F.entry_list_iadd ?_⟩
 rw [Around.under_plainId F.plain_list_iadd _]
 have up:∀b o,s.heap.get? b=some o→(s.heap.push (listOf #[] 0)).get? b=some o:=fun b o e=>Heap.get?_push_of_some _ e
 show wpAny _ A.in1 (Builtin.List.listExtendWith (.ref s.heap.objs.size) (.ref I) (.ref s.heap.objs.size)) _ _ {s with heap:=s.heap.push (listOf #[] 0)}
 unfold Builtin.List.listExtendWith
 refine wpAny_bind ((ht.keeps up).here ?_)
 k_extra "01o"
 k_extra "03H"
 refine wpAny_bind (wpAny_mono iter (fun it s₂ hs=>?_) fun _ _ e=>e)
 obtain⟨rfl,k2,hJ⟩:=hs
 refine wpAny_bind (wpAny_holding ?_)
 unfold Builtin.List.listLengthHint
 k_extra "04s"
 show wpAny _ A.in1 (specialOf (Value.ref I) (Str.ofString "__length_hint__")>>=_) _ _ _
 k_extra "04k"
 k_extra "02A"
 show wpAny _ A.in1 (rule "list.extend.makes-room">>=fun _=>Builtin.List.listTouch (.ref s.heap.objs.size)>>=fun _=>
  again (.builtin "list.extend.loop" ⟨[.ref s.heap.objs.size,.ref I,.ref s.heap.objs.size],[]⟩)) _ _ _
 k_extra "02T"
 have hS₁:s₂.heap.get? s.heap.objs.size=some (listOf #[] 0):=k2 _ _ (Heap.get?_push_size _ rfl)
 k_extra "03P"
 show wpAny _ A.in1 (updateSeq s.heap.objs.size (·.push .none)>>=fun _=>updateSeq s.heap.objs.size (·.pop)) _ _ _
 refine wpAny_bind (wpAny_updateSeq hS₁ rfl ?_)
 k_extra "02L"
 refine wpAny_updateSeq hS₂ rfl ?_
 k_extra "03t"
 k_extra "03I"
 k_extra "0p"
 k_extra "01J"
 cases r with
 |some v=>exact hr
 |none=>
  refine⟨hr.1,fun c hc=>?_⟩
  show wpAny _ A (load s.heap.objs.size>>=_) _ _ s₂
  exact wpAny_bind (wpAny_load hc (wpAny_pure hr.2))
end
section
noncomputable def Runs {α:Type}(lt:Nat→Nat→Bool)(n:Nat):KasT α→(α→Prop)→Prop
 |.ret a,Q=>Q a
 |.ask i j k,Q=>i<n∧j<n∧Runs lt n (k (lt i j)) Q
theorem Runs.bind {α β:Type}{lt:Nat→Nat→Bool}{n:Nat}{f:α→KasT β}{Q:β→Prop}:∀{t:KasT α},Runs lt n t (fun a=>Runs lt n (f a) Q)→Runs lt n (t.bind f) Q
 |.ret _,h=>h
 |.ask _ _ k,h=>⟨h.1,h.2.1,Runs.bind (t:=k _) h.2.2⟩
theorem Runs.mono {α:Type}{lt:Nat→Nat→Bool}{n:Nat}{Q Q':α→Prop}(hq:∀a,Q a→Q' a):∀{t:KasT α},Runs lt n t Q→Runs lt n t Q'
 |.ret a,h=>hq a h
 |.ask _ _ k,h=>⟨h.1,h.2.1,Runs.mono hq (t:=k _) h.2.2⟩
theorem Runs.wp {α:Type}{lt:Nat→Nat→Bool}{n:Nat}{cmp:Nat→Nat→(Bool→Shared→Prop)→Shared→Prop}{Q:α→Shared→Prop}{s:Shared}(hc:∀i j C,i<n→j<n→C (lt i j) s→cmp i j C s):
  ∀{t:KasT α},Runs lt n t (fun a=>Q a s)→t.kasWp cmp Q s
 |.ret _,h=>h
 |.ask i j k,h=>hc i j _ h.1 h.2.1 (Runs.wp hc (t:=k _) h.2.2)
variable{κ:Nat→Int}{n:Nat}
noncomputable def AX (κ:Nat→Int)(p:Array Nat)(k:Nat):Int:=κ (p.getD k 0)
noncomputable def Cv (κ:Nat→Int)(i j:Nat):Bool:=decide (κ i<κ j)
noncomputable def EZ (κ:Nat→Int)(p:Array Nat)(m:Nat):Prop:=∀i j,i<j→j<m→AX κ p i<AX κ p j
noncomputable def LP (κ:Nat→Int)(p:Array Nat)(m:Nat):Prop:=∀i j,i<j→j<m→AX κ p j<AX κ p i
noncomputable def BC (n:Nat)(p:Array Nat):Prop:=p.toList.Perm (List.range n)
theorem BC.size {p:Array Nat}(h:BC n p):p.size=n:=by have:=h.length_eq;simpa using this
theorem BC.lt {p:Array Nat}(h:BC n p){k:Nat}(hk:k<n):p.getD k 0<n:=by
 have hs:k<p.size:=by rw [h.size];exact hk
 have e:p.getD k 0=p[k]:=by simp [Array.getD,hs]
 rw [e]
 exact List.mem_range.mp (h.mem_iff.mp (Array.mem_toList_iff.mpr (Array.getElem_mem hs)))
theorem BC.ne {p:Array Nat}(h:BC n p)(inj:∀i j,i<n→j<n→i≠j→κ i≠κ j){i j:Nat}(hi:i<n)(hj:j<n)(hij:i≠j):AX κ p i≠AX κ p j:=by
 refine inj _ _ (h.lt hi) (h.lt hj) fun e=>hij ?_
 have hi':i<p.toList.length:=by rw [Array.length_toList,h.size];exact hi
 have hj':j<p.toList.length:=by rw [Array.length_toList,h.size];exact hj
 have hn:p.toList.Nodup:=h.nodup_iff.mpr List.nodup_range
 have e1:p.getD i 0=p.toList[i]:=by simp [Array.getD,h.size,hi]
 have e2:p.getD j 0=p.toList[j]:=by simp [Array.getD,h.size,hj]
 rw [e1,e2] at e
 exact(List.getElem_inj hn).mp e
theorem BC.mirror {p:Array Nat}(h:BC n p)(i j d:Nat):BC n (mirror p i j d):=(Array.perm_iff_toList_perm.mp (mirror_perm p i j d)).trans h
theorem BC.bubble {p:Array Nat}(h:BC n p)(i d:Nat):BC n (bubble p i d):=(Array.perm_iff_toList_perm.mp (bubble_perm p i d)).trans h
theorem Dc {p q:Array Nat}{i j:Nat}(h:p[i]?=q[j]?):p.getD i 0=q.getD j 0:=by
 rw [Array.getD_eq_getD_getElem?,Array.getD_eq_getD_getElem?,h]
theorem EH {p:Array Nat}(hp:BC n p)(inj:∀i j,i<n→j<n→i≠j→κ i≠κ j):∀(f m:Nat),1≤m→m+f≤n→EZ κ p m→
  Runs (Cv κ) n (kas_asc p f m) (fun r=>m≤r∧r≤m+f∧EZ κ p r∧(r<m+f→AX κ p r<AX κ p (r-1)))
 |0,m,_,_,hs=>⟨Nat.le_refl _,Nat.le_refl _,hs,fun h=>absurd h (Nat.lt_irrefl _)⟩
 |f+1,m,h1,hf,hs=>by
  k_extra "03a"
  by_cases hc:κ (p.getD m 0)<κ (p.getD (m-1) 0)
  ·rw [show Cv κ (p.getD m 0) (p.getD (m-1) 0)=true from decide_eq_true hc];dsimp only;rw [if_pos rfl]
   exact⟨Nat.le_refl _,by omega,hs,fun _=>hc⟩
  ·k_extra "01q"
   have hlt:AX κ p (m-1)<AX κ p m:=by
    have:=hp.ne inj (i:=m) (j:=m-1) (by exact Ar.q27 hf) (by exact Ar.q12 h1 hf) (by exact Ar.q75 h1)
    unfold AX at this⊢
    exact Ar.q25 hc this
   refine(EH hp inj f (m+1) (by exact Ar.q573) (by exact Ar.q214 hf) fun i j hij hj=>?_).mono fun r hr=>⟨by exact Nat.le_of_succ_le hr.1,by exact Ar.r70 hr,hr.2.2.1,fun h=>hr.2.2.2 (by exact Ar.r60 hr h)⟩
   by_cases hjm:j<m
   ·exact hs i j hij hjm
   ·obtain rfl:j=m:=by exact Ar.q217 hj hjm
    by_cases him:i=j-1
    ·rw [him];exact hlt
    ·exact Int.lt_trans (hs i (j-1) (by exact Ar.q41 hij h1 him) (by exact Ar.q24 h1)) hlt
theorem Eo {p:Array Nat}(hp:BC n p)(inj:∀i j,i<n→j<n→i≠j→κ i≠κ j):∀(f m:Nat),1≤m→m+f≤n→LP κ p m→
  Runs (Cv κ) n (kas_desc f p m 0) (fun r=>r.1=p∧m≤r.2.1∧r.2.1≤m+f∧r.2.2=0∧LP κ p r.2.1)
 |0,m,_,_,hs=>⟨rfl,Nat.le_refl _,Nat.le_refl _,rfl,hs⟩
 |f+1,m,h1,hf,hs=>by
  k_extra "03a"
  by_cases hc:κ (p.getD m 0)<κ (p.getD (m-1) 0)
  ·rw [show Cv κ (p.getD m 0) (p.getD (m-1) 0)=true from decide_eq_true hc];dsimp only;rw [if_pos rfl,if_neg (by decide)]
   refine(Eo hp inj f (m+1) (by exact Ar.q573) (by exact Ar.q214 hf) fun i j hij hj=>?_).mono fun r hr=>⟨hr.1,by exact Nat.le_of_succ_le hr.2.1,by exact Ar.r112 hr,hr.2.2.2⟩
   by_cases hjm:j<m
   ·exact hs i j hij hjm
   ·obtain rfl:j=m:=by exact Ar.q217 hj hjm
    by_cases him:i=j-1
    ·rw [him];exact hc
    ·exact Int.lt_trans hc (hs i (j-1) (by exact Ar.q41 hij h1 him) (by exact Ar.q24 h1))
  ·k_extra "01q"
   refine⟨hp.lt (by exact Ar.q12 h1 hf),hp.lt (by exact Ar.q27 hf),?_⟩
   have hlt:κ (p.getD (m-1) 0)<κ (p.getD m 0):=by
    have:=hp.ne inj (i:=m) (j:=m-1) (by exact Ar.q27 hf) (by exact Ar.q12 h1 hf) (by exact Ar.q75 h1)
    unfold AX at this
    exact Ar.q25 hc this
   rw [show Cv κ (p.getD (m-1) 0) (p.getD m 0)=true from decide_eq_true hlt];dsimp only;rw [if_pos rfl]
   exact⟨rfl,Nat.le_refl _,Nat.le_add_right _ _,rfl,hs⟩
theorem Ix {p:Array Nat}{m:Nat}(hm:m≤p.size)(h:LP κ p m):EZ κ (kas_rev p 0 m) m:=by
 have e:∀k,k<m→AX κ (kas_rev p 0 m) k=AX κ p (m-1-k):=fun k hk=>by
  unfold AX kas_rev
  congr 1
  apply Dc
  rw [getElem?_mirror_all hm,if_pos ⟨Nat.zero_le _,hk⟩]
  congr 1
  omega
 intro i j hij hj
 rw [e i (by exact Nat.lt_trans ‹_› ‹_›),e j hj]
 exact h _ _ (by exact Ar.q44 hij hj) (by exact Ar.q107 hij hj)
noncomputable def KN (κ:Nat→Int)(n:Nat)(r:Nat×Array Nat):Prop:=1≤r.1∧r.1≤n∧BC n r.2∧EZ κ r.2 r.1
theorem G9 (hn:2≤n){p:Array Nat}(hp:BC n p)(inj:∀i j,i<n→j<n→i≠j→κ i≠κ j):Runs (Cv κ) n (kas_count n p) (KN κ n):=by
 unfold kas_count
 refine Runs.bind ((EH hp inj (n-1) 1 (Nat.le_refl _) (by exact Ar.q240 hn) fun i j hij hj=>by exact absurd (Nat.lt_of_le_of_lt (Nat.zero_le _) hij) (Nat.not_lt_of_le (Nat.le_of_lt_succ hj))).mono fun r hr=>?_)
 obtain⟨h1,h2,h3,h4⟩:=hr
 by_cases hrn:r=n
 ·subst hrn
  rw [if_pos (by simp)]
  exact⟨h1,Nat.le_refl _,hp,h3⟩
 ·rw [if_neg (by simpa using hrn)]
  by_cases hr1:r>1
  ·rw [if_pos hr1]
   refine⟨hp.lt (by exact Ar.q589 hn),hp.lt (by exact Ar.q85 hn h1 h2 hrn),?_⟩
   rw [show Cv κ (p.getD 0 0) (p.getD (r-1) 0)=true from decide_eq_true (h3 0 (r-1) (by exact Ar.subP ‹_›) (by exact Ar.q24 h1))];dsimp only;rw [if_pos rfl]
   exact⟨h1,by omega,hp,h3⟩
  ·rw [if_neg hr1]
   obtain rfl:r=1:=by exact Nat.le_antisymm (Nat.not_lt.mp hr1) h1
   unfold kas_descPart
   refine Runs.bind ((Eo hp inj (n-(1+1)) (1+1) (by decide) (by exact Ar.q211 hn hrn) fun i j hij hj=>?_).mono fun q hq=>?_)
   ·obtain rfl:i=0:=by exact Nat.lt_one_iff.mp (Nat.lt_of_lt_of_le hij (Nat.le_of_lt_succ hj))
    obtain rfl:j=1:=by exact Nat.le_antisymm (Nat.le_of_lt_succ hj) hij
    exact h4 (by exact Ar.q195 hn)
   ·obtain⟨rfl,q1,q2,q3,q4⟩:=hq
    rw [if_neg (by omega)]
    unfold kas_tail3
    have hm:BC n (kas_rev q.1 0 q.2.1):=hp.mirror _ _ _
    refine Runs.bind ((EH hm inj (n-q.2.1) q.2.1 (by exact Nat.le_of_succ_le q1) (by exact Ar.q104 hn hrn q2) (Ix (by rw [hp.size];exact Ar.q93 hn q2) q4)).mono fun m hm'=>?_)
    exact⟨by omega,by omega,hm,hm'.2.2.1⟩
theorem Cc {p:Array Nat}(hp:BC n p)(inj:∀i j,i<n→j<n→i≠j→κ i≠κ j){k:Nat}(hk:k<n)(hs:EZ κ p k):∀(f l r:Nat),l≤r→r≤k→r-l≤f→
  (∀i,i<l→AX κ p i<AX κ p k)→(∀i,r≤i→i<k→AX κ p k<AX κ p i)→
  Runs (Cv κ) n (kas_place p k f l r) (fun q=>q≤k∧(∀i,i<q→AX κ p i<AX κ p k)∧∀i,q≤i→i<k→AX κ p k<AX κ p i)
 |0,l,r,hlr,hrk,hf,h1,h2=>⟨by exact Nat.le_trans ‹_› ‹_›,h1,fun i a b=>h2 i (by exact Ar.q273 hlr hf a) b⟩
 |f+1,l,r,hlr,hrk,hf,h1,h2=>by
  unfold kas_place
  by_cases hge:l≥r
  ·rw [if_pos hge]
   exact⟨by exact Nat.le_trans ‹_› ‹_›,h1,fun i a b=>h2 i (by exact Nat.le_trans ‹_› ‹_›) b⟩
  ·rw [if_neg hge]
   have hm1:l≤(l+r)/2:=by exact Ar.q311 hge
   have hm2:(l+r)/2<r:=by exact Ar.q271 hlr hge
   generalize (l+r)/2=m at hm1 hm2
   refine⟨hp.lt (by assumption),hp.lt (by exact Ar.q158 hk hrk hm2),?_⟩
   by_cases hc:κ (p.getD k 0)<κ (p.getD m 0)
   ·rw [show Cv κ (p.getD k 0) (p.getD m 0)=true from decide_eq_true hc];dsimp only;rw [if_pos rfl]
    refine Cc hp inj hk hs f l m hm1 (by exact Ar.q549 hrk hm2) (by exact Ar.q109 hf hm2) h1 fun i a b=>?_
    by_cases him:i=m
    ·rw [him];exact hc
    ·exact Int.lt_trans hc (hs m i (by exact Ar.q554 a him) b)
   ·rw [show Cv κ (p.getD k 0) (p.getD m 0)=false from decide_eq_false hc];dsimp only;rw [if_neg (by simp)]
    have hlt:AX κ p m<AX κ p k:=by
     have:=hp.ne inj (i:=k) (j:=m) hk (by exact Ar.q158 hk hrk hm2) (by exact Ar.q568 hrk hm2)
     unfold AX at this⊢
     exact Ar.q25 hc this
    refine Cc hp inj hk hs f (m+1) r (by exact Nat.succ_le_of_lt ‹_›) hrk (by exact Ar.q91 hf hge hm1) (fun i a=>?_) h2
    by_cases him:i=m
    ·rw [him];exact hlt
    ·exact Int.lt_trans (hs i m (by exact Ar.q496 a him) (by exact Nat.lt_of_lt_of_le ‹_› ‹_›)) hlt
theorem GP {p:Array Nat}{k l:Nat}(hk:k<p.size)(hl:l≤k)(hs:EZ κ p k)(h1:∀i,i<l→AX κ p i<AX κ p k)(h2:∀i,l≤i→i<k→AX κ p k<AX κ p i):EZ κ (bubble p k (k-l)) (k+1):=by
 have e:∀i,i≤k→AX κ (bubble p k (k-l)) i=if i=l then AX κ p k else if l<i then AX κ p (i-1) else AX κ p i:=fun i hi=>by
  have g:=getElem?_bubble hk (k-l) (by exact Ar.q313) i
  have hkl:k-(k-l)=l:=by exact Ar.q166 hl
  rw [hkl] at g
  by_cases a:i=l
  ·rw [if_pos a] at g⊢;exact congrArg κ (Dc g)
  ·rw [if_neg a] at g⊢
   by_cases b:l<i
   ·rw [if_pos ⟨b,hi⟩] at g;rw [if_pos b];exact congrArg κ (Dc g)
   ·rw [if_neg (by exact fun q=>b q.1)] at g;rw [if_neg b];exact congrArg κ (Dc g)
 intro i j hij hj
 rw [e i (by exact Ar.q473 hij hj),e j (by exact Ar.q584 hj)]
 by_cases a:i=l
 ·rw [if_pos a,if_neg (by exact Ar.q575 hij a),if_pos (by exact Ar.q471 hij a)]
  exact h2 _ (by exact Ar.q171 hij a) (by exact Ar.q147 hij hj a)
 ·rw [if_neg a]
  by_cases b:l<i
  ·rw [if_pos b,if_neg (by exact Ar.neTr' ‹_› ‹_›),if_pos (by exact Nat.lt_trans ‹_› ‹_›)]
   exact hs _ _ (by exact Ar.q78 hij b) (by exact Ar.q125 hij hj b)
  ·rw [if_neg b]
   by_cases c:j=l
   ·rw [if_pos c];exact h1 _ (by exact Ar.rr ‹_› ‹_›)
   ·rw [if_neg c]
    by_cases d:l<j
    ·rw [if_pos d]
     by_cases hh:i=j-1
     ·exact absurd (Nat.le_antisymm (Nat.not_lt.mp b) (hh▸Nat.le_sub_one_of_lt d)) a
     ·exact hs _ _ (by exact Ar.q128 a b d hh) (by exact Ar.q163 hj d)
    ·rw [if_neg d];exact hs _ _ hij (by exact Ar.q359 hl hj c d)
theorem GR (inj:∀i j,i<n→j<n→i≠j→κ i≠κ j):∀(f:Nat) (p:Array Nat) (k:Nat),BC n p→k+f=n→EZ κ p k→Runs (Cv κ) n (kas_bin f p k) (fun q=>BC n q∧EZ κ q n)
 |0,p,k,hp,hf,hs=>by
  obtain rfl:k=n:=by omega
  exact⟨hp,hs⟩
 |f+1,p,k,hp,hf,hs=>by
  unfold kas_bin
  refine Runs.bind ((Cc hp inj (by exact Ar.q47 hf) hs k 0 k (Nat.zero_le _) (Nat.le_refl _) (by omega) (fun i h=>absurd h (by omega)) (fun i a b=>absurd b (by exact Nat.not_lt_of_le a))).mono fun l hl=>?_)
  exact GR inj f _ (k+1) (hp.bubble _ _) (by exact Ar.q591 hf) (GP (by rw [hp.size];exact Ar.q47 hf) hl.1 hs hl.2.1 hl.2.2)
theorem Hj (hn:2≤n)(inj:∀i j,i<n→j<n→i≠j→κ i≠κ j):Runs (Cv κ) n (kas_sort n) (fun p=>p.toList.Perm (List.range n)∧p.toList.Pairwise (fun i j=>κ i<κ j)):=by
 unfold kas_sort
 have fin:∀q,BC n q→EZ κ q n→q.toList.Perm (List.range n)∧q.toList.Pairwise (fun i j=>κ i<κ j):=fun q hq hs=>by
  refine⟨hq,List.pairwise_iff_getElem.mpr fun i j hi hj hij=>?_⟩
  have h:=hs i j hij (by rw [←hq.size];simpa using hj)
  unfold AX at h
  have hi':i<q.size:=by simpa using hi
  have hj':j<q.size:=by simpa using hj
  simpa [Array.getD,hi',hj'] using h
 refine Runs.bind ((G9 hn (p:=(List.range n).toArray) (show List.Perm _ _ by simp) inj).mono fun r hr=>?_)
 obtain⟨h1,h2,h3,h4⟩:=hr
 by_cases hlt:r.1<n
 ·rw [if_pos hlt]
  have e:max r.1 1=r.1:=by exact Ar.q474 h1
  rw [e]
  exact(GR inj _ _ _ h3 (by exact Ar.nsub ‹_›) h4).mono fun q hq=>fin q hq.1 hq.2
 ·rw [if_neg hlt]
  have e:r.1=n:=by exact Ar.q550 h2 hlt
  rw [e] at h4
  exact fin _ h3 h4
end
section
variable{prog:Program}{w:World}{A:Around}{E:Value→Shared→Prop}{s:Shared}
noncomputable def pk (p:Int×Int):Int:=p.1*1048576+p.2
noncomputable def AK (p:Int×Int):Prop:=-524288≤p.2∧p.2<524288
noncomputable def Au (h:Heap)(a:Addr)(p:Int×Int):Prop:=∃t u n,h.get? a=some (seqObj "tuple" #[.int p.1 t,.int p.2 u] n)
theorem Au.keep {h h':Heap}{a:Addr}{p:Int×Int}(t:Au h a p)(k:∀o,h.get? a=some o→h'.get? a=some o):Au h' a p:=let⟨t,u,n,e⟩:=t;⟨t,u,n,k _ e⟩
theorem Au.tup {h:Heap}{a:Addr}{p:Int×Int}(t:Au h a p):Bc h a [p.1,p.2]:=by
 obtain⟨t,u,n,e⟩:=t
 exact⟨[.int p.1 t,.int p.2 u],n,e,.cons _ _ (.cons _ _ .nil)⟩
theorem JH {x y:Addr}{p q:Int×Int}{Q:Bool→Shared→Prop}(hx:Au s.heap x p)(hy:Au s.heap y q)(hp:AK p)(hq:AK q)(h:Q (decide (pk p<pk q)) s):
  wpAny (model prog w) A (keyLt' (tuples' true) (.ref x) (.ref y)) Q E s:=by
 obtain⟨p1,p2⟩:=p
 obtain⟨q1,q2⟩:=q
 obtain⟨t1,u1,n1,e1⟩:=hx
 obtain⟨t2,u2,n2,e2⟩:=hy
 unfold AK at hp hq
 unfold pk at h
 dsimp only at hp hq h
 refine kat_lt e1 rfl e2 rfl ?_
 refine kat_cons (wpAny_eqBool_int (kat_go (fun he=>?_) fun he=>?_))
 ·have e:p1=q1:=by simpa using he
  subst e
  refine kat_yes (kat_cons (wpAny_eqBool_int (kat_go (fun he2=>?_) fun he2=>?_)))
  ·have e':p2=q2:=by simpa using he2
   subst e'
   refine kat_yes (kat_nil ?_)
   have e3:decide (p1*1048576+p2<p1*1048576+p2)=false:=by simp
   rw [e3] at h
   exact h
  ·refine kat_no (kat_one _ _ (PyProof.Rows.lt_int ?_))
   have e3:decide (p1*1048576+p2<p1*1048576+q2)=decide (p2<q2):=by rw [decide_eq_decide];exact Int.add_lt_add_iff_left _
   rw [e3] at h
   exact h
 ·refine kat_no (oneLt_int ?_)
  have hne:p1≠q1:=by simpa using he
  have e3:decide (p1*1048576+p2<q1*1048576+q2)=decide (p1<q1):=by rw [decide_eq_decide];omega
  rw [e3] at h
  exact h
theorem CY {h:Heap}{π:Addr→Int×Int}:∀(as:List Addr),(∀x∈as,Au h x (π x))→∃fs,fs.length=as.length∧KatTups h (as.map Value.ref) fs∧∀v∈fs,∃n t,v= .int n t
 | [],_=>⟨[],rfl,KatTups.nil,fun _ hv=>nomatch hv⟩
 |a::as,hp=>by
  obtain⟨fs,h1,h2,h3⟩:=CY as fun x hx=>hp x (.tail _ hx)
  obtain⟨t,u,n,e⟩:=hp a (.head _)
  refine⟨.int (π a).1 t::fs,by simp [h1],KatTups.cons e rfl rfl (by rfl) h2,fun v hv=>?_⟩
  rcases List.mem_cons.mp hv with rfl|hv
  ·exact⟨_,_,rfl⟩
  ·exact h3 v hv
theorem DE (as:List Addr){i:Nat}(hi:i<as.length):(as.map Value.ref).getD i Value.none= .ref (as.getD i 0):=by simp [hi]
theorem Cd (b:Bool)(as:List Addr):katRev b (as.map Value.ref)=(katRev b as).map Value.ref:=by
 cases b with
 |false=>rfl
 |true=>simp [katRev]
theorem Dx (b:Bool){as:List Addr}{x:Addr}:x∈katRev b as↔x∈as:=by
 cases b with
 |false=>exact Iff.rfl
 |true=>simp [katRev]
theorem CG {α:Type}(b:Bool)(as:List α):(katRev b as).Perm as:=by
 cases b with
 |false=>exact .refl _
 |true=>exact List.reverse_perm _
theorem Du (as:List Addr):(List.range as.length).map (fun i=>as.getD i 0)=as:=by
 apply List.ext_getElem
 ·simp
 ·intro i h1 h2
  simp at h1
  simp [h1]
theorem HQ {α:Type}{as:List α}{b:Bool}(h:as.length<2):katRev b as=as:=by
 cases b with
 |false=>rfl
 |true=>
  cases as with
  |nil=>rfl
  |cons x r=>
   cases r with
   |nil=>rfl
   |cons y r=>exact absurd h (Nat.not_lt_of_le (Nat.succ_le_succ (Nat.succ_le_succ (Nat.zero_le _))))
theorem Ib {as:List Value}:(as.toArray.zip as.toArray).map (·.2)=as.toArray:=by
 apply Array.ext'
 rw [Array.toList_map,Array.toList_zip]
 exact List.map_snd_zip (Nat.le_refl _)
theorem K3 {α:Type}{R:α→α→Prop}{as:List α}(h:as.length<2):as.Pairwise R:=by
 cases as with
 |nil=>exact .nil
 |cons x r=>
  cases r with
  |nil=>exact List.pairwise_singleton _ _
  |cons y r=>exact absurd h (Nat.not_lt_of_le (Nat.succ_le_succ (Nat.succ_le_succ (Nat.zero_le _))))
theorem Dq {a:Addr}{as:List Addr}{n:Nat}{b:Bool}{π:Addr→Int×Int}{P:PySem.Fin→Shared→Prop}(ho:s.heap.get? a=some (rl as n))(h64:as.length<64)
  (hp:∀x∈as,x≠a∧Au s.heap x (π x)∧AK (π x)) (hnd:(as.map fun x=>pk (π x)).Nodup)
  (h:∀as' h' c,as'.Perm as→(katRev b as').Pairwise (fun x y=>pk (π x)<pk (π y))→(∀b o,s.heap.get? b=some o→b≠a→h'.get? b=some o)→h'.get? a=some (rl as' c)→P (.done (.ret .none)) {s with heap:=h'}):
  wpAny (model prog w) A (Builtin.«list.sort» ⟨[.ref a],[(Str.ofString "reverse",.bool b)]⟩) P E s:=by
 rw [list_sort_rev]
 have ha:a<s.heap.objs.size:=Heap.lt_size ho
 have hvl:(as.map Value.ref).length=as.length:=List.length_map ..
 refine wpAny_bind (listItems_at ho rfl ?_)
 refine wpAny_bind (listUpdate_at ho rfl ?_ (by rw [List.size_toArray,hvl,sizeLine_eq];exact Ar.upL ‹_› (by rfl)) (Nat.zero_le _))
 obtain⟨e1,ho1⟩:∃e1,(s.heap.update a (Obj.mapSeq fun _=> #[])).get? a=some (seqObj "list" #[] e1):=⟨_,get?_update_seq ho (fun _=> #[])⟩
 refine wpAny_bind (seqEpoch_at ho1 rfl ?_)
 refine wpAny_bind (wpAny_newTuple ?_ (by show(as.map Value.ref).length≤_;rw [hvl,sizeLine_eq];exact Ar.upL ‹_› (by rfl)))
 k_extra "04T"
 refine wpAny_holding ?_
 have ho6:(((s.heap.update a (Obj.mapSeq fun _=> #[])).push (seqObj "tuple" (as.map Value.ref).toArray 0)).push (seqObj "list" #[] 0)).get? a=some (seqObj "list" #[] e1):=by
  rw [Heap.get?_push_ne _ _ _ (by rw [size_push',Heap.size_update];exact Nat.ne_of_lt (Nat.lt_succ_of_lt ha)),Heap.get?_push_ne _ _ _ (by rw [Heap.size_update];exact Nat.ne_of_lt ha)]
  exact ho1
 show wpAny (model prog w) A _ P E {s with heap:=((s.heap.update a (Obj.mapSeq fun _=> #[])).push (seqObj "tuple" (as.map Value.ref).toArray 0)).push (seqObj "list" #[] 0)}
 have keep6:∀b o,s.heap.get? b=some o→b≠a→(((s.heap.update a (Obj.mapSeq fun _=> #[])).push (seqObj "tuple" (as.map Value.ref).toArray 0)).push (seqObj "list" #[] 0)).get? b=some o:=fun b o e hb=>
  Heap.get?_push_of_some _ (Heap.get?_push_of_some _ ((Heap.get?_update_other _ _ (Ne.symm hb)).trans e))
 generalize hh6:((s.heap.update a (Obj.mapSeq fun _=> #[])).push (seqObj "tuple" (as.map Value.ref).toArray 0)).push (seqObj "list" #[] 0)=h6 at ho6 keep6⊢
 clear hh6
 have fin:∀(out:Array Value) (as':List Addr),out.toList=as'.map Value.ref→as'.Perm as→(katRev b as').Pairwise (fun x y=>pk (π x)<pk (π y))→
   P (.done (.ret .none)) {s with heap:=h6.update a (Obj.mapSeq fun _=>out)}:=fun out as' h1 h2 h3=>by
  have:out=(as'.map Value.ref).toArray:=by rw [←h1]
  subst this
  obtain⟨c,hc⟩:∃c,(h6.update a (Obj.mapSeq fun _=>(as'.map Value.ref).toArray)).get? a=some (rl as' c):=⟨_,get?_update_seq ho6 fun _=>(as'.map Value.ref).toArray⟩
  exact h as' _ c h2 h3 (fun b o e hb=>(Heap.get?_update_other _ _ (Ne.symm hb)).trans (keep6 b o e hb)) hc
 have step:∀t:Sem PySem.Fin,wpAny (model prog w) A t P E {s with heap:=h6}→wpAny (model prog w) A (if b=true then(do let _←rule "list.sort.reverse";t) else t) P E {s with heap:=h6}:=by
  intro t ht
  split
  ·exact wpAny_bind (wpAny_rule ht)
  ·exact ht
 dsimp only
 refine step _ ?_
 have hsz:(as.map Value.ref).toArray.size=as.length:=by simp
 have emap:(if b=true then((as.map Value.ref).toArray.zip (as.map Value.ref).toArray).reverse else(as.map Value.ref).toArray.zip (as.map Value.ref).toArray)=(katRev b (as.map Value.ref)).toArray.zip (katRev b (as.map Value.ref)).toArray:=kat_pairs b rfl
 rw [emap]
 have hkl:(katRev b (as.map Value.ref)).length=as.length:=by rw [kat_len,hvl]
 by_cases h2:as.length<2
 ·rw [if_pos (by rw [hsz];exact h2),if_pos (by rw [hsz];exact h2)]
  k_extra "04r"
  rw [StateT.run_pure]
  k_extra "04r"
  dsimp only
  refine wpAny_bind (seqEpoch_at ho6 rfl ?_)
  have eout:(arrOf (SortSt.mk' general' ((katRev b (as.map Value.ref)).toArray.zip (katRev b (as.map Value.ref)).toArray) #[] 7 none)).map (·.2)=(as.map Value.ref).toArray:=by
   show((katRev b (as.map Value.ref)).toArray.zip (katRev b (as.map Value.ref)).toArray).map (·.2)=_
   rw [HQ (hvl▸h2)];exact Ib
  have eout2:(if b=true then((as.map Value.ref).toArray).reverse else(as.map Value.ref).toArray)=(as.map Value.ref).toArray:=by
   rw [List.reverse_toArray]
   exact(apply_ite List.toArray (b=true) _ _).symm.trans (congrArg List.toArray (HQ (hvl▸h2)))
  rw [eout,eout2]
  refine wpAny_bind (listUpdate_at ho6 rfl ?_ (hsz2:=by rw [hsz,sizeLine_eq];exact Ar.upL ‹_› (by rfl)))
  k_extra "01I"
  exact wpAny_pure (fin _ as rfl (.refl _) (K3 ((kat_len _ _).symm▸h2)))
 ·rw [if_neg (by rw [hsz];exact h2),if_neg (by rw [hsz];exact h2)]
  obtain⟨fs,hf1,hf2,hf3⟩:=CY (h:=h6) (π:=π) as fun x hx=>(hp x hx).2.1.keep fun o e=>keep6 x o e (hp x hx).1
  refine wpAny_bind (kat_kind (s:={s with heap:=h6}) (T:=.type "int") hf2 (by exact hf1▸Nat.lt_of_lt_of_le (by decide) (Nat.not_lt.mp h2)) (fun v hv=>?_) rfl ?_)
  ·obtain⟨n,t,rfl⟩:=hf3 v hv
   exact Looks.of_pure rfl
  show wpAny (model prog w) A (((sortRuns').run (SortSt.mk' (tuples' true) _ #[] 7 none))>>=_) _ _ _
  have inj:∀i j,i<as.length→j<as.length→i≠j→pk (π ((katRev b as).getD i 0))≠pk (π ((katRev b as).getD j 0)):=fun i j hi hj hij e=>by
   k_extra "04M"
   have hnd':((katRev b as).map fun x=>pk (π x)).Nodup:=(((CG b as).map fun x=>pk (π x)).nodup_iff).mpr hnd
   have h1:i<((katRev b as).map fun x=>pk (π x)).length:=by rw [List.length_map];exact Ar.rl ‹_› ‹_›
   have h2:j<((katRev b as).map fun x=>pk (π x)).length:=by rw [List.length_map];exact Ar.rl ‹_› ‹_›
   have g1:i<(katRev b as).length:=by exact Ar.rl ‹_› ‹_›
   have g2:j<(katRev b as).length:=by exact Ar.rl ‹_› ‹_›
   refine hij ((List.getElem_inj (h₀:=h1) (h₁:=h2) hnd').mp ?_)
   simpa [g1,g2] using e
  k_extra "04M"
  refine wpAny_bind (wpAny_mono (kat_run (ks:=katRev b (as.map Value.ref)) (vs:=katRev b (as.map Value.ref)) (s:={s with heap:=h6}) (κ:=tuples' true)
   (Q:=fun st' s'=>s'={s with heap:=h6}∧∃p:Array Nat,arrOf st'=p.map (kas_item ((katRev b (as.map Value.ref)).toArray.zip (katRev b (as.map Value.ref)).toArray))∧failedOf st'=none∧
    p.toList.Perm (List.range as.length)∧p.toList.Pairwise (fun i j=>pk (π ((katRev b as).getD i 0))<pk (π ((katRev b as).getD j 0))))
   (G:=fun p s'=>s'={s with heap:=h6}∧p.toList.Perm (List.range as.length)∧p.toList.Pairwise (fun i j=>pk (π ((katRev b as).getD i 0))<pk (π ((katRev b as).getD j 0))))
   rfl (by rw [hkl];exact Ar.q259 h2) (by rw [hkl];exact h64) (fun p st' s' a1 a2 a3 a4=>⟨a4.1,p,a2,a3,a4.2⟩) ?_) ?_ fun _ _ e=>e)
  ·rw [hkl]
   refine Runs.wp (lt:=Cv fun i=>pk (π ((katRev b as).getD i 0))) (n:=as.length) (fun i j C hi hj hC=>?_) ((Hj (κ:=fun i=>pk (π ((katRev b as).getD i 0))) (by exact Ar.q259 h2) inj).mono fun p hq=>⟨rfl,hq⟩)
   unfold kas_ask
   rw [Cd,DE _ (by exact Ar.rl ‹_› ‹_›),DE _ (by exact Ar.rl ‹_› ‹_›)]
   have m1:(katRev b as).getD i 0∈as:=(Dx b).mp (AN (by exact Ar.rl ‹_› ‹_›))
   have m2:(katRev b as).getD j 0∈as:=(Dx b).mp (AN (by exact Ar.rl ‹_› ‹_›))
   exact JH (s:={s with heap:=h6}) ((hp _ m1).2.1.keep fun o e=>keep6 _ o e (hp _ m1).1) ((hp _ m2).2.1.keep fun o e=>keep6 _ o e (hp _ m2).1) (hp _ m1).2.2 (hp _ m2).2.2 hC
  ·rintro⟨⟨⟩,st'⟩ s' ⟨rfl,p,har,hf,hperm,hpw⟩
   dsimp only
   refine wpAny_bind (seqEpoch_at ho6 rfl ?_)
   have eout:(arrOf st').map (·.2)=List.toArray ((p.toList.map fun i=>(katRev b as).getD i 0).map Value.ref):=by
    rw [kat_snds rfl har,List.map_map]
    congr 1
    refine List.map_congr_left fun i hi=>?_
    have:i<as.length:=List.mem_range.mp (hperm.mem_iff.mp hi)
    rw [Cd,DE _ (by exact Ar.rl ‹_› ‹_›)]
    rfl
   have pp:(p.toList.map fun i=>(katRev b as).getD i 0).Perm as:=by
    have e:=hperm.map fun i=>(katRev b as).getD i 0
    rw [←hl,Du] at e
    exact e.trans (CG b as)
   rw [eout,kat_outs,Cd]
   have hz:(List.toArray ((katRev b (p.toList.map fun i=>(katRev b as).getD i 0)).map Value.ref)).size=as.length:=by
    rw [List.size_toArray,List.length_map,kat_len,pp.length_eq]
   refine wpAny_bind (listUpdate_at ho6 rfl ?_ (Nat.zero_le _) (by rw [hz,sizeLine_eq];exact Ar.upL ‹_› (by rfl)))
   rw [hf]
   k_extra "01I"
   refine wpAny_pure (fin _ (katRev b (p.toList.map fun i=>(katRev b as).getD i 0)) rfl ((CG b _).trans pp) ?_)
   have e2:katRev b (katRev b (p.toList.map fun i=>(katRev b as).getD i 0))=p.toList.map fun i=>(katRev b as).getD i 0:=by
    cases b with
    |false=>rfl
    |true=>simp [katRev]
   rw [e2]
   exact List.pairwise_map.mpr hpw
theorem Ex {x:Value}{b:Bool}{Q:Value→Shared→Prop}
  (h:wpAny (model prog w) A.in1 (collect x) (fun vs s₁=>∃(as:List Addr) (π:Addr→Int×Int),vs=as.map Value.ref∧as.length<64∧(∀x∈as,Au s₁.heap x (π x)∧AK (π x))∧(as.map fun x=>pk (π x)).Nodup∧
   ∀as' D h' c,as'.Perm as→(katRev b as').Pairwise (fun x y=>pk (π x)<pk (π y))→(∀b o,s₁.heap.get? b=some o→h'.get? b=some o)→s₁.heap.get? D=none→h'.get? D=some (rl as' c)→Q (.ref D) {s₁ with heap:=h'}) E s):
  wpAny (model prog w) A (call (.builtin "sorted") [x] [(Str.ofString "reverse",.bool b)]) Q E s:=by
 refine call_function_entry_kw kind_sorted plain_sorted entry_sorted (args_sorted_rev _ _) ?_
 unfold Builtin.«sorted»
 k_extra "03x"
 refine wpAny_bind (wpAny_mono h (fun vs s₁ hv=>?_) fun _ _ e=>e)
 obtain⟨as,π,rfl,h64,hp,hnd,k⟩:=hv
 refine wpAny_bind (wpAny_newList ?_ (by rw [List.length_map,sizeLine_eq];exact Ar.upL ‹_› (by rfl)))
 have hoL:(s₁.heap.push (seqObj "list" (as.map Value.ref).toArray 0)).get? s₁.heap.objs.size=some (rl as 0):=Heap.get?_push_size _ rfl
 refine wpAny_bind (wpAny_holding (wpAny_call_entry_kw slot_list_sort ⟨_,hoL,rfl⟩ entry_list_sort (Dq (s:={s₁ with heap:=s₁.heap.push (seqObj "list" (as.map Value.ref).toArray 0)}) hoL h64 (fun x hx=>⟨?_,(hp x hx).1.keep fun o e=>Heap.get?_push_of_some _ e,(hp x hx).2⟩) hnd fun as' h' c a1 a2 a3 a4=>⟨_,rfl,?_⟩) (args_list_sort_rev _ _)))
 ·obtain⟨⟨t,u,n,e⟩,_⟩:=hp x hx
  exact Nat.ne_of_lt (Heap.lt_size e)
 ·exact wpAny_pure ⟨_,rfl,k as' _ h' c a1 a2 (fun b o e=>a3 b o (Heap.get?_push_of_some _ e) (Nat.ne_of_lt (Heap.lt_size e))) (Heap.get?_none_of_le (Nat.le_refl _)) a4⟩
theorem DV {a:Addr}{as:List Addr}{n:Nat}{b:Bool}{π:Addr→Int×Int}{Q:Value→Shared→Prop}(ho:s.heap.get? a=some (rl as n))(h64:as.length<64)
  (hp:∀x∈as,x≠a∧Au s.heap x (π x)∧AK (π x)) (hnd:(as.map fun x=>pk (π x)).Nodup)
  (h:∀as' h' c,as'.Perm as→(katRev b as').Pairwise (fun x y=>pk (π x)<pk (π y))→(∀b o,s.heap.get? b=some o→b≠a→h'.get? b=some o)→h'.get? a=some (rl as' c)→Q .none {s with heap:=h'}):
  wpAny (model prog w) A (call (.builtin "list.sort") [.ref a] [(Str.ofString "reverse",.bool b)]) Q E s:=
 wpAny_call_entry_kw slot_list_sort ⟨_,ho,rfl⟩ entry_list_sort (Dq ho h64 hp hnd fun as' h' c a1 a2 a3 a4=>⟨_,rfl,h as' h' c a1 a2 a3 a4⟩) (args_list_sort_rev _ _)
end
theorem AS {h:Heap}{a b:Addr}{o o':Obj}(e:h.get? a=some o)(e':h.get? b=some o')(n:o.cls≠o'.cls):@Ne Nat a b:=by
 intro q
 have q:a=b:=q
 subst q
 rw [e] at e'
 cases e'
 exact n rfl
noncomputable def cNe (v w:Value):Bool:=match v with
 |.ref a=>(match w with
  |.ref b=>!Nat.beq a b
  |_=>true)
 |.type s=>(match w with
  |.type t=>decide (s≠t)
  |_=>true)
 |_=>false
theorem LK {v w:Value}(e:cNe v w=true):v≠w:=by
 intro h
 subst h
 cases v with
 |ref a=>exact absurd (e.symm.trans (congrArg (!·) (Nat.beq_refl a))) Bool.noConfusion
 |type s=>exact absurd rfl (of_decide_eq_true e)
 |_=>cases e
theorem ocl {h:Heap}{a b:Addr}{o o':Obj}{v v':Value}(e:h.get? a=some o)(e':h.get? b=some o')(c:o.cls=v)(c':o'.cls=v')(n:cNe v v'=true):@Ne Nat a b:=
 AS e e' fun q=>LK n (c.symm.trans (q.trans c'))
theorem IsListIter.keep' {h h':Heap}{a l:Addr}{i:Nat}(x:h.IsListIter a l i)(k:∀o,h.get? a=some o→h'.get? a=some o):h'.IsListIter a l i:=let⟨o,ho,r⟩:=x;⟨o,k o ho,r⟩
theorem IsList.keep' {h h':Heap}{a:Addr}{xs:Array Value}(x:h.IsList a xs)(k:∀o,h.get? a=some o→h'.get? a=some o):h'.IsList a xs:=let⟨o,ho,r⟩:=x;⟨o,k o ho,r⟩
theorem Cf {h:Heap}{a:Addr}(k:∀o,h.get? a=some o→False):h.get? a=none:=by
 cases e:h.get? a with
 |none=>rfl
 |some o=>exact(k o e).elim
theorem BP {g h h':Heap}{L:Addr}{m:Str→Option Value}(F:Fr g L h m)(wr:List Addr)(k:∀b o,h.get? b=some o→b∉wr→h'.get? b=some o)(hw:∀x∈wr,g.get? x=none∧x≠L):Fr g L h' m:=by
 k_extra "02d"
 refine⟨⟨oL,es,ep,k _ _ hL fun q=>(hw _ q).2 rfl,r⟩,fun b o e=>k b o (F.keep b o e) fun q=>?_,F.above⟩
 rw [(hw _ q).1] at e
 cases e
theorem Jd {l u:Addr}{t:List (Addr×Obj)}(h:AllLt l t)(hu:@LE.le Nat _ l u):∀p∈t,p.1≠u:=by
 induction t with
 |nil=>intro p hp;cases hp
 |cons q t ih=>
  intro p hp
  k_extra "02"
  ·exact Nat.ne_of_lt (Nat.lt_of_lt_of_le h.1 hu)
  ·exact ih h.2 p hp
noncomputable def Fq (h:Heap)(x:Addr):Obj:=(h.get? x).getD {cls:=.none}
noncomputable def CB (h:Heap)(as:List Addr):List (Addr×Obj):=as.map fun x=>(x,Fq h x)
theorem Hg {g h h':Heap}{L:Addr}{as:List Addr}(ha:∀x∈as,∃o,h.get? x=some o)(k:∀x∈as,∀o,h.get? x=some o→h'.get? x=some o)(hn:∀x∈as,g.get? x=none∧x≠L):News g L h' (CB h as):=fun p hp=>by
 obtain⟨x,hx,rfl⟩:=List.mem_map.mp hp
 obtain⟨o,e⟩:=ha x hx
 refine⟨?_,(hn x hx).2,(hn x hx).1⟩
 show h'.get? x=some ((h.get? x).getD _)
 rw [e]
 exact k x hx o e
theorem HH {h:Heap}{as:List Addr}{a:Addr}(hn:∀x∈as,x≠a):∀p∈CB h as,p.1≠a:=fun p hp=>by
 obtain⟨x,hx,rfl⟩:=List.mem_map.mp hp
 exact hn x hx
noncomputable abbrev AF (ou:List Env):List Addr:=ou.filterMap (·.frame)
noncomputable def Up (fs wr:List Addr)(h h':Heap):Prop:=∀b o,h.get? b=some o→b∉wr→(b∉fs→h'.get? b=some o)∧(b∈fs→∃sl,h'.get? b=some {o with slots:=sl})
structure Ae (base:Heap) (ou:List Env) (h:Heap):Prop where
 stays:base.StaysIn h
 frames:h.FunFrames base ou
 dicts:KtsDicts (AF ou) h
theorem Up.of_keep {fs wr:List Addr}{h h':Heap}(k:∀b o,h.get? b=some o→b∉wr→h'.get? b=some o):Up fs wr h h':=fun b o e hb=>⟨fun _=>k b o e hb,fun _=>⟨o.slots,k b o e hb⟩⟩
theorem Up.trans {fs wr:List Addr}{h h₁ h₂:Heap}(x:Up fs wr h h₁)(y:Up fs wr h₁ h₂):Up fs wr h h₂:=fun b o e hb=>⟨fun m=>(y b o ((x b o e hb).1 m) hb).1 m,fun m=>by
 obtain⟨s1,h1⟩:=(x b o e hb).2 m
 obtain⟨s2,h2⟩:=(y b _ h1 hb).2 m
 exact⟨s2,h2⟩⟩
theorem Up.wider {fs wr wr':List Addr}{h h':Heap}(x:Up fs wr h h')(s:∀a∈wr,a∈wr'):Up fs wr' h h':=fun b o e hb=>x b o e fun m=>hb (s b m)
theorem Up.out {fs wr:List Addr}{h h':Heap}(x:Up fs wr h h'){b:Addr}{o:Obj}(e:h.get? b=some o)(hb:b∉wr)(hf:b∉fs):h'.get? b=some o:=(x b o e hb).1 hf
theorem Bv {base h:Heap}{l:List Env}(F:h.FunFrames base l){b:Addr}{o:Obj}{vs:Array Value}(e:h.get? b=some o)(d:o.data= .fields vs):b∉AF l:=fun m=>by
 obtain⟨_,o',e',n⟩:=F.mem m
 rw [e] at e'
 cases e'
 exact n vs d
theorem An {h:Heap}{fs:List Addr}(D:KtsDicts fs h){b:Addr}{o:Obj}{vs:Array Value}{n:Nat}(e:h.get? b=some o)(d:o.data= .seq vs n):b∉fs:=fun m=>by
 obtain⟨o',es,n',e',d'⟩:=D b m
 rw [e] at e'
 cases e'
 rw [d] at d'
 cases d'
theorem CK {h h' base:Heap}{l:List Env}:h.FunFrames base l→(∀b∈AF l,∀o,h.get? b=some o→h'.get? b=some o)→h'.FunFrames base l:=by
 induction l with
 |nil=>exact fun _ _=>trivial
 |cons env r ih=>exact fun p k=>⟨p.1,p.2.1.imp fun L=>Exists.imp fun o q=>⟨q.1,q.2.1,k L (List.mem_filterMap.mpr ⟨env,.head _,q.1⟩) o q.2.2.1,q.2.2.2⟩,ih p.2.2 fun b hb=>k b ((List.mem_filterMap.mp hb).elim fun e he=>List.mem_filterMap.mpr ⟨e,.tail _ he.1,he.2⟩)⟩
section
variable{prog:Program}{w:World}{dp un:Nat}{gd:Option (List Code)}{s:Shared}{K:Frag}{R:Result→Shared→Prop}{name qual:Str}{params:Arguments}{body:List Stmt}{scope:Scope}{dV kV doc pm cdv ct oc:Value}{an od:Option Addr}{osl:Array (Option Value)}{f:Addr}{args:Args}{binds:List (Str×Value)}
 {p:Program} {loose:List Str} {mz:ExcName→Option Value} {mg mb:Str→Option Value} {base:Heap} {ou:List Env}
theorem Am (mu:List (Addr×Obj))(S:Ae base ou s.heap)(X:K.In base)(T:Top p loose mz mg mb base)(hm:∀q∈mu,s.heap.get? q.1=some q.2∧base.get? q.1=none∧q.1∉AF ou)
  (ho:K.lookup f=some ⟨oc,od,.func (fnOf name qual params body scope dV kV doc pm an cdv ct),osl⟩) (hcd:codeIn K cdv qual=true) (hroom:dp<recursionLimit)
  (hbind:BindsTo s (fnOf name qual params body scope dV kV doc pm an cdv ct) args binds) (hloc:∀y∈binds,scope.names.lookup y.1=some .local)
  (h:∀g L' h₁,Fr g L' h₁ (fun y=>binds.reverse.lookup y)→News g L' h₁ mu→K.In g→Top p loose mz mg mb g→Below (AR dp un (some ou) gd) base ou g→KtsDicts (AF ou) g→(∀b o,s.heap.get? b=some o→b∉mu.map (·.1)→g.get? b=some o)→
   (∀q∈mu,q.1<L')→s.heap.objs.size≤L'→
   wpAny (model prog w) ((AR dp un (some ou) gd).deeper (envOf qual scope L' f cdv)) (execs body (envOf qual scope L' f cdv))
    (fun fl s'=>R (.ok (.ret (match fl with|.ret v=>v|_=>.none))) s')
    (fun e s'=>wpAny (model prog w) ((AR dp un (some ou) gd).deeper (envOf qual scope L' f cdv)) (leaving (envOf qual scope L' f cdv) e) (fun _ s''=>R (.error e) s'') (fun e' s''=>R (.error e') s'') s')
    {s with heap:=h₁,toks:=s.toks+binds.length})
  (hco:scope.isCoroutine=false) (hgen:scope.isGenerator=false) (hk:scope.kind= .function) (hcell:∀x∈scope.names,x.2≠.cell):
  codeAny (model prog w) (AR dp un (some ou) gd) (.call (.ref f) args) R s:=by
 have off:∀b o,base.get? b=some o→b∉mu.map (·.1):=fun b o e q=>by
  k_extra "020"
  rw [(hm x hq).2.1] at e;cases e
 k_extra "01x"
 have offF:∀b∈AF ou,b∉mu.map (·.1):=fun b hb q=>by
  k_extra "020"
  exact(hm x hq).2.2 hb
 refine codeAny_call_def (fd:=fnOf name qual params body scope dV kV doc pm an cdv ct) (body:=body) (binds:=binds) hroom (S.stays _ _ (X _ _ ho)) rfl (T.nolimit.keeps S.stays) (codeRec_of (X.keeps S.stays) hcd) rfl hbind hcell hloc (fun h₁ hns hk₁=>?_) hco hgen hk
 exact h _ s.heap.objs.size h₁ ⟨hns,fun b o e=>hk₁ b o (of_hideAll _ e),Nat.le_of_eq (hideAll_size _ _)⟩
  (fun q hq=>⟨hk₁ _ _ (hm q hq).1,Nat.ne_of_lt (Heap.lt_size (hm q hq).1),hideAll_none _ (List.mem_map_of_mem hq)⟩) (X.keeps st) (T.keeps st) ⟨rfl,st,CK S.frames fun b hb o e=>hideAll_get _ e (offF b hb)⟩
  (fun b hb=>by
   k_extra "04U"
   exact⟨o,es,n,hideAll_get _ e (offF b hb),d⟩)
  (fun b o e n=>hideAll_get _ e n) (fun q hq=>Heap.lt_size (hm q hq).1) (Nat.le_refl _)
end
section
variable{A₀:Around}{base g h h':Heap}{ou:List Env}{L a:Addr}{m:Str→Option Value}{name:Str}{scope:Scope}{cd:Value}{news:List (Addr×Obj)}
theorem Ah (B:Below A₀ base ou g)(D:KtsDicts (AF ou) g)(F:Fr g L h m)(hk:scope.kind= .function:=by rfl):Ae base (envOf name scope L a cd::ou) h:=by
 have B':=B.push (name:=name) (a:=a) (cd:=cd) F hk
 refine⟨B'.stays,B'.frames,fun b hb=>?_⟩
 rcases kts_mem hb with rfl|hb
 ·obtain⟨o,es,n,e,d,_⟩:=F.ns
  exact⟨o,es,n,e,d⟩
 ·obtain⟨o,es,n,e,d⟩:=D b hb
  exact⟨o,es,n,F.keep b o e,d⟩
theorem Fb (B:Below A₀ base ou g)(D:KtsDicts (AF ou) g)(F:Fr g L h m)(N:News g L h news){wr:List Addr}(U:Up (L::AF ou) wr h h')(hw:∀x∈wr,g.get? x=none∧x≠L):
  ∃g',KtsTurn (AF ou) g g'∧Fr g' L h' m∧Below A₀ base ou g'∧KtsDicts (AF ou) g'∧∀q∈news,q.1∉wr→h'.get? q.1=some q.2∧q.1≠L∧g'.get? q.1=none:=by
 have nw:∀b o,g.get? b=some o→b∉wr:=fun b o e q=>by rw [(hw b q).1] at e;cases e
 have nL:∀b o,g.get? b=some o→b≠L:=fun b o e q=>by rw [q,kts_self F] at e;cases e
 obtain⟨T,St⟩:=kts_turn_at (h:=h') (fs:=AF ou) (g:=g) (fun b hb=>let⟨o,_,_,e,_⟩:=D b hb;⟨o,e⟩)
  (fun b o e nm=>(U b o (F.keep b o e) (nw b o e)).1 fun q=>(List.mem_cons.mp q).elim (nL b o e) nm)
  (fun b o e m=>(U b o (F.keep b o e) (nw b o e)).2 (.tail _ m))
 refine⟨_,T,⟨?_,St,by rw [T.size];exact F.above⟩,⟨B.stack,fun b o e=>T.other b o (B.stays b o e) fun hm=>?_,B.frames.of_keeps fun b o e _=>?_⟩,D.turn T,fun q hq hn=>⟨?_,(N q hq).2.1,T.none_ _ (N q hq).2.2⟩⟩
 ·k_extra "02d"
  obtain⟨sl,e⟩:=(U L oL hL fun q=>(hw L q).2 rfl).2 (.head _)
  exact⟨_,es,ep,e,r⟩
 ·rw [(B.frames.mem hm).1] at e;cases e
 ·obtain⟨sl,hs⟩:=T.up e
  exact⟨_,hs,rfl⟩
 ·refine(U q.1 q.2 (N q hq).1 hn).1 fun z=>?_
  rcases List.mem_cons.mp z with z|z
  ·exact(N q hq).2.1 z
  ·obtain⟨o,_,_,e,_⟩:=D _ z
   rw [(N q hq).2.2] at e;cases e
theorem Jm {s₀ gE hE:Heap}{mu:List (Addr×Obj)}(keep:∀b o,s₀.get? b=some o→b∉mu.map (·.1)→g.get? b=some o)(T:KtsTurn (AF ou) g gE)(F:Fr gE L hE m):Up (AF ou) (mu.map (·.1)) s₀ hE:=fun b o e hb=>
 ⟨fun m=>F.keep b o (T.other b o (keep b o e hb) m),fun m=>by
  obtain⟨sl,hs⟩:=T.frame b o (keep b o e hb) m
  exact⟨sl,F.keep _ _ hs⟩⟩
end
section
variable{prog:Program}{w:World}{A₀:Around}{E:Value→Shared→Prop}{s':Shared}{base g h:Heap}{ou:List Env}{L a e:Addr}{m:Str→Option Value}{name:Str}{scope:Scope}{cd:Value}
 {b₀:Stmt} {suite:List Stmt} {pos np:Pos} {rest:List ExceptHandler} {Q:Flow→Shared→Prop} {news:List (Addr×Obj)} {KF:Frag}
 {p:Program} {loose:List Str} {mz:ExcName→Option Value} {mg mb:Str→Option Value} {x:Str} {X T':String}
theorem E5 {M:Model}{A:Around}{s:Shared}{env:Env}{oe:Obj}{vs:Array Value}{a0:Value}{Q:Unit→Shared→Prop}
  (hfr:A.frames=some (env::ou)) (hl:s.heap.FunFrames base (env::ou)) (hf:env.frame=some L)
  (he:s.heap.get? e=some oe) (hkb:base.StaysIn s.heap) (hen:base.get? e=none) (hd:oe.data= .fields vs) (h1:vs[1]?=some .none) (h0:vs[0]?=some a0)
  (h:∀h',Heap.LeftW base (env::ou) e oe.cls a0 s.heap h'→Q () {s with heap:=h'}):wpAny M A (noteFrame (.ref e) env) (fun _ s'=>wpAny M A (setFlight (.ref e) none) Q E s') E s:=by
 unfold noteFrame
 simp only [hf]
 refine wpAny_bind (wpAny_field he hd h1 ?_)
 rw [if_neg (by decide)]
 exact wpAny_newEntryW hfr hl hf he hkb hen hd (Array.getElem?_eq_some_iff.mp h1).1 h0 h
theorem GM (K:Below A₀ base ou g)(F:Fr g L h m)(N:News g L h news)(hx:Heap.NewExc h s'.heap e X)(XB:KF.In base)(TB:Top p loose mz mg mb base)(D:KtsDicts (AF ou) g)
  (ex:nsIn KF mainGlobals x=some none) (hv:bootBuiltins x=some (.type T')) (hn':x≠ "__name__")
  (hexc:isSubtype (.type T') (.type "BaseException")=pure true) (hnt:isSubtype (.type ((Manifest.find? T').elim "type" fun y=>y.metatype)) (.type "tuple")=pure false) (hsub:isSubtype (.type X) (.type T')=pure true)
  (k:∀h' g',KtsTurn (AF ou) g g'→Fr g' L h' m→News g' L h' news→Below A₀ base ou g'→KF.In g'→Top p loose mz mg mb g'→KtsDicts (AF ou) g'→
   wpAny (model prog w) ((A₀.deeper (envOf name scope L a cd)).mark (some (.ref e))) (execs (b₀::suite) (envOf name scope L a cd)) Q E {s' with heap:=h'})
  (hk:scope.kind= .function:=by rfl) (hx':(envOf name scope L a cd).kindOf x=some .globalImplicit:=by rfl) (hd:(x==("__debug__":Str))=false:=by decide)
  (hE:PassesOwnAt (model prog w) ((A₀.deeper (envOf name scope L a cd)).mark (some (.ref e))) (A₀.deeper (envOf name scope L a cd)) (envOf name scope L a cd) E:=by passes_own):
  wpAny (model prog w) (A₀.deeper (envOf name scope L a cd)) (noteFrame (.ref e) (envOf name scope L a cd))
   (fun _ s₂=>wpAny (model prog w) (A₀.deeper (envOf name scope L a cd)) (setFlight (.ref e) none) (fun _ s₃=>
    wpAny (model prog w) (A₀.deeper (envOf name scope L a cd)) (handleBy (.ref e) (envOf name scope L a cd) (.ExceptHandler (some (.Name x np)) none (b₀::suite) pos::rest)) Q E s₃) E s₂) E s':=by
 have K':=K.push (name:=name) (a:=a) (cd:=cd) F hk
 have hin:∀env∈(envOf name scope L a cd::ou),∀b,env.frame=some b→b∈(envOf name scope L a cd::ou).filterMap (·.frame):=fun env he b hb=>List.mem_filterMap.mpr ⟨env,he,hb⟩
 have st:base.StaysIn (hideAll h ((envOf name scope L a cd::ou).filterMap (·.frame))):=fun b o q=>hideAll_get _ (K'.stays b o q) fun hm=>by
  rw [(K'.frames.mem hm).1] at q;cases q
 have sg:∀b o,h.get? b=some o→b∉(envOf name scope L a cd::ou).filterMap (·.frame)→(hideAll h ((envOf name scope L a cd::ou).filterMap (·.frame))).get? b=some o:=fun b o q nm=>hideAll_get _ q nm
 have hl:∀q∈news,(hideAll h ((envOf name scope L a cd::ou).filterMap (·.frame))).get? q.1=some q.2∧g.get? q.1=none∧base.get? q.1=none:=fun q hq=>by
  refine⟨hideAll_get _ (N q hq).1 fun hm=>?_,(N q hq).2.2,fresh_of_stays K.stays (N q hq).2.2⟩
  obtain⟨env,he,hf⟩:=List.mem_filterMap.mp hm
  rcases List.mem_cons.mp he with rfl|he
  ·exact(N q hq).2.1 (Option.some.inj hf).symm
  ·obtain⟨o,ho,_⟩:=(K.frames.mem (List.mem_filterMap.mpr ⟨env,he,hf⟩)).2
   rw [(N q hq).2.2] at ho;cases ho
 obtain⟨ob,tp,he,hcls,hdt⟩:=hx.there
 have hen:(hideAll h ((envOf name scope L a cd::ou).filterMap (·.frame))).get? e=none:=by
  cases q:(hideAll h ((envOf name scope L a cd::ou).filterMap (·.frame))).get? e with
  |none=>rfl
  |some o=>have:=of_hideAll _ q;rw [hx.new] at this;cases this
 have hL:(hideAll h ((envOf name scope L a cd::ou).filterMap (·.frame))).get? L=none:=hideAll_none _ (List.mem_filterMap.mpr ⟨_,.head _,rfl⟩)
 refine E5 (a0:=tp) K'.stack ((funFrames_hide K'.frames hin).of_keeps fun b o hb _=>⟨o,hx.keeps b o hb,rfl⟩) rfl he (fun b o hb=>hx.keeps b o (of_hideAll _ hb)) hen hdt rfl rfl fun h₅ hLW=>?_
 obtain⟨k1,k2,k3,k4⟩:=hLW
 have hheld:Heap.FlyingW (hideAll h ((envOf name scope L a cd::ou).filterMap (·.frame))) (envOf name scope L a cd::ou) e (.type X) tp h₅:=⟨k1,hen,k2,by rw [←hcls];exact k3⟩
 have hsm₅:h.UpToSlots h₅:=(Heap.UpToSlots.of_keeps hx.keeps).trans k4
 obtain⟨g₅,T₅,F₅,K₅⟩:=kts_ground K F sg hheld.1 hsm₅
 have X₅:KF.In g₅:=XB.keeps K₅.stays
 k_extra "03d"
 obtain⟨ob',hob,hobc⟩:=hheld.there
 refine wpAny_handleBy_builtin (X:=X) (T:=T') (b:=true) hexc hnt hsub (name_B F₅ X₅ P₅ ex hv hn' ⟨rfl,⟨ob',hob,hobc⟩,?_⟩ hk hx' hd)
 k_extra "04D"
 obtain⟨g₆,T₆,F₆,K₆⟩:=kts_ground K F sg hfl₆.1 (hsm₅.trans hsm₆)
 have Nl:News g₆ L h₆ news:=fun q hq=>⟨hfl₆.1 _ _ (hl q hq).1,(fun z=>by have:=(hl q hq).1;rw [z,hL] at this;cases this),T₆.none_ _ (hl q hq).2.1⟩
 have X₆:KF.In g₆:=XB.keeps K₆.stays
 k_extra "04c"
 k_extra "03J"
 k_extra "031"
end
section
variable{prog:Program}{w:World}{A:Around}{E:Value→Shared→Prop}{s:Shared}
noncomputable def Ay (h:Heap)(it:Addr):Prop:=∃o z,h.get? it=some o∧o.cls= .type "list_iterator"∧o.data= .fields #[.none,z]
theorem Br {Q:α→Shared→Prop}(hh:A.handled=none)(h:∀h' e,Heap.NewExc s.heap h' e "StopIteration"→E (.ref e) {s with heap:=h'}):
  wpAny (model prog w) A (Builtin.SmallTypes.stopIteration:Sem α) Q E s:=by
 unfold Builtin.SmallTypes.stopIteration
 show wpAny _ _ (newExc (.type "StopIteration") []>>=_) _ _ _
 k_extra "03P"
 simp only [newExc,newTuple]
 refine wpAny_bind (wpAny_newObj_type ?_ (by size_fits))
 refine wpAny_bind (m:=firstArgMember _ _) (wpAny_of_eq (a:=Value.none) (by first|rfl|(simp only [firstArgMember];rfl)) ?_)
 refine wpAny_newObj_type ?_ (by size_fits)
 simp only [raiseNew]
 refine wpAny_bind (wpAny_handled ?_)
 rw [hh]
 refine wpAny_bind (wpAny_pure (wpAny_throw ?_))
 refine h _ _ ⟨fun b o e=>Heap.get?_push_of_some _ (Heap.get?_push_of_some _ e),?_,_,_,Heap.get?_push_size _ rfl,rfl,rfl⟩
 exact Heap.get?_none_of_le (by rw [Heap.size_push];exact Nat.le_succ _)
theorem Ep {it:Addr}{c:Value}{o:Obj}{id:String}{T:String}{Q:Value→Shared→Prop}(ho:s.heap.get? it=some o)(hc:o.cls= .type T)(S:Slot T "__next__" id)
  (h:wpAny (model prog w) A.in1 (call (.builtin id) [.ref it]) (fun v s'=>Q v s') E s):wpAny (model prog w) A (call (.builtin "next") [.ref it]) Q E s:=by
 have hT:s.TypeIs (.ref it) T:=⟨o,ho,hc⟩
 refine call_function_entry (by decide+kernel) (by decide+kernel) kdk_entry_next (kdk_args_next _) ?_
 unfold Builtin.«next»
 refine wpAny_bind (m:=someArgs "next" 1 2 _) (wpAny_of_eq (a:= [Value.ref it]) (by first|rfl|kernel_rfl!) ?_)
 dsimp only
 refine wpAny_bind (wpAny_specialOf (name:=Str.ofString "__next__") hT S.lookup ?_)
 refine wpAny_ite_split (fun hab=>absurd hab (by simp)) (fun _=>?_)
 refine wpAny_bind (wpAny_callSpecial?_slot (name:=Str.ofString "__next__") hT S (wpAny_mono h (fun v s' q=>?_) fun _ _ e=>e))
 exact wpAny_pure ⟨_,rfl,q⟩
theorem E6 {it l:Addr}{i:Nat}{items:Array Value}{x:Value}{Q:Value→Shared→Prop}(hit:s.heap.IsListIter it l i)(hl:s.heap.IsList l items)(hx:items[i]?=some x)
  (h:∀h',h'.IsListIter it l (i+1)→Heap.SameBut it s.heap h'→Q x {s with heap:=h'}):wpAny (model prog w) A (call (.builtin "next") [.ref it]) Q E s:=by
 k_extra "04V"
 obtain⟨ol,hol,_,nl,hdl⟩:=hl
 k_extra "0L"
 k_extra "01v"
 k_extra "04d"
 k_extra "03g"
 k_extra "02R"
 k_extra "024"
 k_extra "01E"
 show wpAny _ _ (seqItems? (.ref l)>>=_) _ _ s
 k_extra "02H"
 k_extra "04E"
 refine wpAny_bind (wpAny_setField ho hd (by simp) (wpAny_pure ⟨x,rfl,h _ ?_ (Heap.SameBut.update ..)⟩))
 exact⟨_,Heap.get?_update_self _ ho (Obj.isFreed_of_fields (Obj.data_mapFields hd _)),(Obj.cls_mapFields ..).trans hc,by
  rw [Obj.data_mapFields hd];simp [rawInt]⟩
theorem Ft {it l:Addr}{i:Nat}{items:Array Value}{Q:Value→Shared→Prop}(hh:A.handled=none)(hit:s.heap.IsListIter it l i)(hl:s.heap.IsList l items)(hx:items[i]?=none)
  (h:∀h₁ h' e,Ay h₁ it→Heap.SameBut it s.heap h₁→Heap.NewExc h₁ h' e "StopIteration"→E (.ref e) {s with heap:=h'}):wpAny (model prog w) A (call (.builtin "next") [.ref it]) Q E s:=by
 k_extra "04V"
 obtain⟨ol,hol,_,nl,hdl⟩:=hl
 k_extra "0L"
 k_extra "01v"
 k_extra "04d"
 k_extra "03g"
 k_extra "02R"
 k_extra "024"
 k_extra "01E"
 show wpAny _ _ (seqItems? (.ref l)>>=_) _ _ s
 k_extra "02H"
 k_extra "04E"
 k_extra "02E"
 refine Br hh fun h' e hn=>h _ h' e ⟨_,.int i 0,Heap.get?_update_self _ ho (Obj.isFreed_of_fields (Obj.data_mapFields hd _)),(Obj.cls_mapFields ..).trans hc,?_⟩ (Heap.SameBut.update ..) hn
 rw [Obj.data_mapFields hd];simp
theorem EU {it:Addr}{Q:Value→Shared→Prop}(hh:A.handled=none)(hit:Ay s.heap it)
  (h:∀h' e,Heap.NewExc s.heap h' e "StopIteration"→E (.ref e) {s with heap:=h'}):wpAny (model prog w) A (call (.builtin "next") [.ref it]) Q E s:=by
 obtain⟨o,z,ho,hc,hd⟩:=hit
 refine Ep (c:=.none) ho hc slot_listiter_next (wpAny_call_entry slot_listiter_next ⟨o,ho,hc⟩ entry_listiter_next ?_ (args_listiter_next _))
 k_extra "01v"
 refine wpAny_bind (wpAny_field ho hd (x:=.none) rfl ?_)
 show wpAny _ _ (if(Value.none==Value.none)=true then _ else _) _ _ s
 rw [if_pos (show(Value.none==Value.none)=true from rfl)]
 exact wpAny_bind (wpAny_rule (wpAny_bind (Br hh h)))
theorem Db {h₀:Heap}{L l:Addr}{m:Str→Option Value}{news:List (Addr×Obj)}{items:Array Value}{Q:Value→Shared→Prop}(F:Fr h₀ L s.heap m)(N:News h₀ L s.heap news)(hl:s.heap.IsList l items)
  (h:∀I h',Fr h₀ L h' m→News h₀ L h' ((I,{cls:=.type "list_iterator",data:=.fields #[.ref l,.int 0 0]})::news)→(∀p∈news,p.1<I)→Q (.ref I) {s with heap:=h'}):
  wpAny (model prog w) A (call (.builtin "iter") [.ref l]) Q E s:=by
 refine call_function_entry (by decide+kernel) (by decide+kernel) kdk_entry_iter (kdk_args_iter _) ?_
 unfold Builtin.«iter»
 refine wpAny_bind (m:=someArgs "iter" 1 2 _) (wpAny_of_eq (a:= [Value.ref l]) (by first|rfl|kernel_rfl!) ?_)
 show wpAny _ _ (pyIter (.ref l)>>=_) _ _ _
 refine wpAny_bind (wpAny_pyIter_list hl ?_)
 exact wpAny_pure ⟨_,rfl,h _ _ (F.push _) (News.push F N _ rfl) (fun q hq=>Heap.lt_size (N q hq).1)⟩
end
theorem Gv:isSubtype (.type "StopIteration") (.type "BaseException")=pure true:=by rw [isSubtype_type];kernel_rfl
theorem ET:isSubtype (.type ((Manifest.find? "StopIteration").elim "type" fun x=>x.metatype)) (.type "tuple")=pure false:=by
 rw [show(Manifest.find? "StopIteration").elim "type" (fun x=>x.metatype)= "type" from by kernel_rfl,isSubtype_type];kernel_rfl
section
variable{M:Model}{A:Around}{E:Value→Shared→Prop}{s:Shared}{K:Frag}
theorem El {h:Heap}{t:Tok}(X:K.In h)(e:nsIn K cStatics sharingNotToldKey=some none):Looks M h (sharingNotTold t) false:=(looks_nsIn X e).andThen .now
theorem KE {x y:Int}{t u:Tok}{Q:Value→Shared→Prop}(X:K.In s.heap)(e:nsIn K cStatics sharingNotToldKey=some none)(ht:t≠0)(hu:u≠0)(htu:t=u→x=y)(h:∀b:Bool,(b=true→x=y)→Q (.bool b) s):
  wpAny M A (compareOp .Is (.int x t) (.int y u)) Q E s:=by
 show wpAny M A (isSame (.int x t) (.int y u)>>=fun b=>pure (.bool b)) Q E s
 have key:∀{Q':Bool→Shared→Prop},(∀b:Bool,(b=true→x=y)→Q' b s)→wpAny M A (isSame (.int x t) (.int y u)) Q' E s:=fun{Q'} hq=>by
  show wpAny M A (if(x==y&&smallInt x)=true then isSame.cachedInt t u else isSame.created (x==y) t u) Q' E s
  have ht':(t==0)=false:=by simpa using ht
  have hu':(u==0)=false:=by simpa using hu
  refine wpAny_ite ?_
  split
  ·rename_i hs
   unfold isSame.cachedInt
   rw [ht',hu']
   simp only [Bool.or_self,Bool.false_eq_true,if_false]
   refine wpAny_bind (wpAny_rule (wpAny_pure (hq _ fun _=>?_)))
   simp only [Bool.and_eq_true,beq_iff_eq] at hs
   exact hs.1
  ·unfold isSame.created
   rw [ht',hu']
   refine wpAny_ite ?_
   split
   ·rename_i hh;simp at hh
   refine wpAny_ite ?_
   split
   ·rename_i hh
    exact wpAny_pure (hq _ fun _=>htu (by simpa using hh))
   refine wpAny_ite ?_
   split
   ·exact wpAny_pure (hq _ fun hf=>by cases hf)
   rename_i hxy
   have hxy:x=y:=by simpa using hxy
   refine wpAny_bind ((El X e).here ?_)
   k_extra "021"
   refine wpAny_bind ((El X e).here ?_)
   k_extra "021"
   exact wpAny_bind (wpAny_rule (wpAny_bind (wpAny_askSetting (wpAny_pure (hq _ fun _=>hxy)))))
 exact wpAny_bind (key fun b hb=>wpAny_pure (h b hb))
end
theorem DA {M:Model}{Γ:PySem.Ctx}{p:Pos}{t:Sem PySem.Fin}{fs:List Frame}{s s':Shared}{e:End}(h:PySem.Runs M Γ p t fs s e s'):s.toks≤s'.toks:=by
 induction h<;>first
  |exact Nat.le_refl _
  |assumption
  |exact Nat.le_trans (by assumption) (by assumption)
  |exact Nat.le_of_succ_le (by assumption)
theorem GX {M:Model}{Γ:PySem.Ctx}{p:Pos}{g:Nat}{r:Resume}{s s':Shared}{res:GenResult}(h:Wakes M Γ p g r s res s'):s.toks≤s'.toks:=by
 unfold Wakes at h
 split at h
 ·exact h.elim
 ·split at h
  ·obtain⟨e₁,s₁,hr,_,_,rfl⟩:=h
   exact(show(s.setGen g GenState.running).toks≤s₁.toks from DA hr)
  ·k_extra "03k"
  ·k_extra "03k"
 ·obtain⟨e₁,s₁,hr,_,_,rfl⟩:=h
  exact(show(s.setGen g GenState.running).toks≤s₁.toks from DA hr)
 ·k_extra "03k"
 ·k_extra "03k"
theorem Jl {α:Type}{M:Model}{Γ:PySem.Ctx}{Q:α→Pos→Shared→Prop}{E:Value→Pos→Shared→Prop}{n:Nat}(t:Sem α):∀{p:Pos} {s:Shared},n≤s.toks→
  Sem.wp M Γ t (fun a p' s'=>n≤s'.toks→Q a p' s') (fun e p' s'=>n≤s'.toks→E e p' s') p s→Sem.wp M Γ t Q E p s:=by
 induction t with
 |pure a=>intro p s hn h;rw [Sem.wp] at h⊢;exact h hn
 |raise e=>intro p s hn h;rw [Sem.wp] at h⊢;exact h hn
 |rule tg k ih=>intro p s hn h;rw [Sem.wp] at h⊢;exact ih _ hn h
 | «at» p' k ih=>intro p s hn h;rw [Sem.wp] at h⊢;exact ih _ hn h
 |load a part k ih=>intro p s hn h;rw [Sem.wp] at h⊢;obtain⟨o,ho,h⟩:=h;exact⟨o,ho,ih _ hn h⟩
 |update a part f k ih=>intro p s hn h;rw [Sem.wp] at h⊢;exact⟨h.1,ih _ hn h.2⟩
 |loadIfAlive a k ih=>intro p s hn h;rw [Sem.wp] at h⊢;exact ih _ hn h
 |point l k ih=>intro p s hn h;rw [Sem.wp] at h⊢;exact ih _ hn h
 |alloc o k ih=>intro p s hn h;rw [Sem.wp] at h⊢;exact ih _ hn h
 |fresh k ih=>intro p s hn h;rw [Sem.wp] at h⊢;exact ih _ (Nat.le_succ_of_le hn) h
 |ask k ih=>intro p s hn h;rw [Sem.wp] at h⊢;exact ih _ hn h
 |choose src m k ih=>intro p s hn h;rw [Sem.wp] at h⊢;exact⟨h.1,ih _ hn h.2⟩
 |os q l k ih=>intro p s hn h;rw [Sem.wp] at h⊢;exact ih _ hn h
 |call c hd g l k ih=>intro p s hn h;rw [Sem.wp] at h⊢;obtain⟨r,s',hr,h⟩:=h;exact⟨r,s',hr,ih _ (Nat.le_trans hn (DA hr)) h⟩
 |handled own k ih=>intro p s hn h;rw [Sem.wp] at h⊢;exact ih _ hn h
 |genState g k ih=>intro p s hn h;rw [Sem.wp] at h⊢;obtain⟨st,hs,h⟩:=h;exact⟨st,hs,ih _ hn h⟩
 |newGen c k ih=>intro p s hn h;rw [Sem.wp] at h⊢;exact ih _ hn h
 |resume g r l k ih=>intro p s hn h;rw [Sem.wp] at h⊢;obtain⟨res,s',hr,h⟩:=h;exact⟨res,s',hr,ih _ (Nat.le_trans hn (GX hr)) h⟩
 |stack k ih=>intro p s hn h;rw [Sem.wp] at h⊢;exact ih _ hn h
 |thread k ih=>intro p s hn h;rw [Sem.wp] at h⊢;exact ih _ hn h
 |_=>intro p s hn h;simp only [Sem.wp] at h
theorem Aj {α:Type}{M:Model}{A:Around}{t:Sem α}{Q:α→Shared→Prop}{E:Value→Shared→Prop}{s:Shared}
  (h:wpAny M A t (fun a s'=>s.toks≤s'.toks→Q a s') (fun e s'=>s.toks≤s'.toks→E e s') s):wpAny M A t Q E s:=fun Γ p hΓ=>Jl t (Nat.le_refl _) (h Γ p hΓ)
theorem CL {g h:Heap}{L R:Addr}{m:Str→Option Value}(F:Fr g L h m)(e:h.get? R=none):R≠L∧g.get? R=none:=by
 refine⟨fun q=>?_,Cf fun o q=>?_⟩
 ·obtain⟨oL,_,_,hL,_⟩:=F.ns
  rw [←q,e] at hL;cases hL
 ·rw [F.keep _ _ q] at e;cases e
theorem Al {g h h':Heap}{L R:Addr}{m:Str→Option Value}{o:Obj}{news:List (Addr×Obj)}(F:Fr g L h m)(N:News g L h' news)(e:h.get? R=none)(e':h'.get? R=some o):News g L h' ((R,o)::news):=fun p hp=>by
 k_extra "02"
 ·exact⟨e',CL F e⟩
 ·exact N p hp
theorem DW {prog:Program}{w:World}{A:Around}{E:Value→Shared→Prop}{s:Shared}{K:Frag}{x C L f:Addr}{h₀:Heap}{m:Str→Option Value}{ox:Obj}{od:Option Obj}{name:Str}{T:Value}{pl:Sem Bool}{Q:Value×List Value→Shared→Prop}
  (F:Fr h₀ L s.heap m) (X₀:K.In h₀) (I:InstAt s.heap x ox C od) (hg:plainGet K C name=true) (hf:findIn K (.ref C) name=some (some (.ref f))) (ht:typeIn K (.ref f)=some T)
  (hT:(T !=Value.type "function"&&T !=Value.type "method_descriptor"&&T !=Value.type "wrapper_descriptor")=true) (h:wpAny (model prog w) A (getAttr (.ref x) name) (fun v=>Q (v,[])) E s):wpAny (model prog w) A (getMethod (.ref x) name pl) Q E s:=by
 have X:=X₀.keeps F.keep
 have hcan:=PySem.F.canon_object_ga
 unfold getMethod specialOf
 refine wpAny_bind (wpAny_bind (I.type.here ((looks_findIn X (plainGet_of hg).1).here ?_)))
 dsimp only
 rw [hcan,if_neg (by decide)]
 refine wpAny_bind (wpAny_bind (I.type.here ((looks_findIn X (plainGet_of hg).2).here ?_)))
 refine wpAny_bind (wpAny_bind (I.type.here ((looks_findIn X hf).here (wpAny_bind ((looks_typeIn X ht).here ?_)))))
 rw [if_pos hT]
 exact wpAny_bind (wpAny_mono h (fun v s' hq=>wpAny_pure hq) fun _ _ e=>e)
theorem CF {s₀ g hE:Heap}{mu:List (Addr×Obj)}(wr:List Addr)(keep:∀b o,s₀.get? b=some o→b∉mu.map (·.1)→g.get? b=some o)(Fk:g.StaysIn hE)(hmu:∀q∈mu,s₀.get? q.1=some q.2)(same:∀q∈mu,q.1∉wr→hE.get? q.1=some q.2):
  ∀b o,s₀.get? b=some o→b∉wr→hE.get? b=some o:=fun b o e hb=>by
 by_cases hm:b∈mu.map (·.1)
 ·k_extra "04t"
  rw [hmu q hq] at e
  cases e
  exact same q hq hb
 ·exact Fk b o (keep b o e hm)
theorem Cm {A₀:Around}{g gE hE:Heap}{ou:List Env}{s₀:Heap}{mu:List (Addr×Obj)}(wr:List Addr)(keep:∀b o,s₀.get? b=some o→b∉mu.map (·.1)→g.get? b=some o)(T:KtsTurn (AF ou) g gE)(Fk:gE.StaysIn hE)(hmu:∀q∈mu,s₀.get? q.1=some q.2∧q.1∉AF ou)(same:∀q∈mu,q.1∉wr→hE.get? q.1=some q.2):
  Up (AF ou) wr s₀ hE:=fun b o e hb=>by
 by_cases hm:b∈mu.map (·.1)
 ·k_extra "04t"
  rw [(hmu q hq).1] at e
  cases e
  exact⟨fun _=>same q hq hb,fun m=>absurd m (hmu q hq).2⟩
 ·exact⟨fun m=>Fk b o (T.other b o (keep b o e hm) m),fun m=>by
   obtain⟨sl,hs⟩:=T.frame b o (keep b o e hm) m
   exact⟨sl,Fk _ _ hs⟩⟩
noncomputable def CN (base:Heap)(ou:List Env)(G:Heap)(news:List (Addr×Obj))(e:Addr)(h':Heap):Prop:=
 ∃t vs,RaisedS base G ou e (.type "StopIteration") t vs news h'∧G.UpToSlots h'
theorem FW {fs:List Addr}{g g' h':Heap}(T:KtsTurn fs g g')(U:g'.UpToSlots h'):g.UpToSlots h':=fun b o e n=>by
 obtain⟨sl,e'⟩:=T.up e
 obtain⟨sl',e''⟩:=U b _ e' n
 exact⟨sl',e''⟩
theorem Ee {base g g6 h' s₀:Heap}{ou:List Env}{e t:Addr}{vs:List Value}{news news':List (Addr×Obj)}{mu:List (Addr×Obj)}(wr:List Addr)(hwr:wr=mu.map (·.1))(keep:∀b o,s₀.get? b=some o→b∉mu.map (·.1)→g.get? b=some o)(T:KtsTurn (AF ou) g g6)
  (R:RaisedS base g6 ou e (.type "StopIteration") t vs news h') (U:g6.UpToSlots h') (sub:∀q∈news',q∈news∧q.1∈wr):CN base ou (hideAll s₀ wr) news' e h':=by
 subst hwr
 obtain⟨⟨B,h1,h2,h3,h4,h5⟩,h6⟩:=R
 have kk:∀b o,(hideAll s₀ (mu.map (·.1))).get? b=some o→g.get? b=some o:=fun b o q=>keep b o (of_hideAll _ q) fun m=>by
  rw [hideAll_none _ m] at q;cases q
 refine⟨t,vs,⟨⟨B,h1,fun b o q m=>h2 b o (T.other b o (kk b o q) m) m,fun q hq=>⟨(h3 q (sub q hq).1).1,hideAll_none _ (sub q hq).2,(h3 q (sub q hq).1).2.2⟩,h4,h5⟩,h6⟩,fun b o q n=>?_⟩
 exact FW T U b o (kk b o q) n
theorem CC {base g g6 h' s₀:Heap}{ou:List Env}{e t:Addr}{vs:List Value}{news:List (Addr×Obj)}{mu:List (Addr×Obj)}(wr:List Addr)(hwr:wr=mu.map (·.1))(keep:∀b o,s₀.get? b=some o→b∉mu.map (·.1)→g.get? b=some o)(T:KtsTurn (AF ou) g g6)
  (R:RaisedS base g6 ou e (.type "StopIteration") t vs news h') (U:g6.UpToSlots h') (sub:∀q∈news,q.1∈wr):CN base ou (hideAll s₀ wr) news e h':=Ee wr hwr keep T R U fun q hq=>⟨hq,sub q hq⟩
section
variable{prog:Program}{w:World}{A:Around}{E:Value→Shared→Prop}{s:Shared}
theorem LC {I:Addr}{T:Value}{Q:Value→Shared→Prop}(J:Nat→List Value→Shared→Prop){n₀:Nat}
  (ht:Looks (model prog w) s.heap (typeOf (.ref I)) T) (h1:(T==Value.type "list")=false) (h2:(T==Value.type "tuple")=false)
  (hlen:Looks (model prog w) s.heap (specialOf (.ref I) "__len__") none) (hhint:Looks (model prog w) s.heap (specialOf (.ref I) "__length_hint__") none) (hI:I<s.heap.objs.size)
  (iter:∀hS c,(∀b o,s.heap.get? b=some o→hS.get? b=some o)→hS.get? s.heap.objs.size=some (listOf #[] c)→
   wpAny (model prog w) A.in1.in1 (pyIter (.ref I)) (fun it s₂=>it= .ref I∧(∀b o,hS.get? b=some o→s₂.heap.get? b=some o)∧∀h',(∀b o,b≠s.heap.objs.size→s₂.heap.get? b=some o→h'.get? b=some o)→(∃c,h'.get? s.heap.objs.size=some (listOf #[] c))→J n₀ [] {s₂ with heap:=h'}) E {s with heap:=hS})
  (turn:∀n acc s₁,J n acc s₁→acc.length≤1000∧wpAny (model prog w) A.in1.in1 (pyNext (.ref I)) (fun r s₂=>(∀o,s₁.heap.get? s.heap.objs.size=some o→s₂.heap.get? s.heap.objs.size=some o)∧match r with
   |none=>∀c,s₂.heap.get? s.heap.objs.size=some (listOf acc.toArray c)→Q (.ref s.heap.objs.size) s₂
   |some v=>∃n',n'<n∧∀h',(∀b o,b≠s.heap.objs.size→s₂.heap.get? b=some o→h'.get? b=some o)→(∃c,h'.get? s.heap.objs.size=some (listOf (acc++ [v]).toArray c))→J n' (acc++ [v]) {s₂ with heap:=h'}) E s₁):
  wpAny (model prog w) A (call (.type "list") [.ref I]) Q E s:=by
 have hSI:s.heap.objs.size≠I:=Nat.ne_of_gt hI
 refine callType_codes (Q₁:=fun obj s₁=>obj= .ref s.heap.objs.size∧s₁={s with heap:=s.heap.push {cls:=.type "list",data:=.seq #[]}}) F.called_list (F.typeCall_list_1 _) F.entry_list_init
  (code_list_new _ ⟨rfl,rfl⟩) fun obj s₁ h₁=>?_
 obtain⟨rfl,rfl⟩:=h₁
 have hS:(s.heap.push {cls:=.type "list",data:=.seq #[]}).get? s.heap.objs.size=some {cls:=.type "list",data:=.seq #[]}:=Heap.get?_push_size _ rfl
 refine⟨⟨_,hS,rfl⟩,F.args_list_init_2 _ _,?_⟩
 show wpAny _ A.in1.in1 (do let old←Builtin.List.listItems (.ref s.heap.objs.size);Builtin.List.listUpdate (.ref s.heap.objs.size) (fun _=> #[]);letGo old.toList.reverse;Builtin.List.listExtendWith (.ref s.heap.objs.size) (.ref I) .none) _ _ _
 k_extra "03P"
 unfold Builtin.List.listItems
 refine wpAny_bind (wpAny_seqItems hS rfl (wpAny_pure ?_))
 show wpAny _ A.in1.in1 (updateSeq s.heap.objs.size (fun _=> #[])>>=fun _=>letGo (#[]:Array Value).toList.reverse>>=fun _=>Builtin.List.listExtendWith (.ref s.heap.objs.size) (.ref I) .none) _ _ _
 refine wpAny_bind (wpAny_updateSeq hS rfl ?_)
 have hS₂:=Heap.get?_update_self (Obj.mapSeq (fun _=>(#[]:Array Value))) hS rfl
 have up:∀b o,s.heap.get? b=some o→((s.heap.push {cls:=.type "list",data:=.seq #[]}).update s.heap.objs.size (Obj.mapSeq (fun _=>(#[]:Array Value)))).get? b=some o:=fun b o e=>
  (Heap.get?_update_other _ _ (Ne.symm (Nat.ne_of_lt (Heap.lt_size e)))).trans (Heap.get?_push_of_some _ e)
 refine wpAny_bind (wpAny_letGo ?_)
 generalize hh:(s.heap.push {cls:=.type "list",data:=.seq #[]}).update s.heap.objs.size (Obj.mapSeq (fun _=>(#[]:Array Value)))=hX at hS₂ up
 clear hh
 obtain⟨cX,hX2⟩:∃c,hX.get? s.heap.objs.size=some (listOf #[] c):=⟨_,hS₂⟩
 show wpAny _ A.in1.in1 (Builtin.List.listExtendWith (.ref s.heap.objs.size) (.ref I) .none) _ _ {s with heap:=hX}
 unfold Builtin.List.listExtendWith
 refine wpAny_bind ((ht.keeps up).here ?_)
 k_extra "01o"
 k_extra "03H"
 refine wpAny_bind (wpAny_mono (iter hX cX up hX2) (fun it s₂ hs=>?_) fun _ _ e=>e)
 obtain⟨rfl,k2,hJ⟩:=hs
 refine wpAny_bind (wpAny_holding ?_)
 unfold Builtin.List.listLengthHint
 k_extra "04s"
 show wpAny _ A.in1.in1 (specialOf (Value.ref I) (Str.ofString "__length_hint__")>>=_) _ _ _
 k_extra "04k"
 k_extra "02A"
 show wpAny _ A.in1.in1 (rule "list.extend.makes-room">>=fun _=>Builtin.List.listTouch (.ref s.heap.objs.size)>>=fun _=>
  again (.builtin "list.extend.loop" ⟨[.ref s.heap.objs.size,.ref I,.none],[]⟩)) _ _ _
 k_extra "02T"
 have hS₁:s₂.heap.get? s.heap.objs.size=some (listOf #[] cX):=k2 _ _ hX2
 k_extra "03P"
 show wpAny _ A.in1.in1 (updateSeq s.heap.objs.size (·.push .none)>>=fun _=>updateSeq s.heap.objs.size (·.pop)) _ _ _
 refine wpAny_bind (wpAny_updateSeq hS₁ rfl ?_)
 k_extra "02L"
 refine wpAny_updateSeq hS₂ rfl ?_
 k_extra "03t"
 k_extra "03I"
 k_extra "0p"
 k_extra "01J"
 cases r with
 |some v=>exact hr
 |none=>exact⟨hr.1,fun c hc=>⟨rfl,hr.2 c hc⟩⟩
end
section
variable{M:Model}{A:Around}{E:Value→Shared→Prop}{s:Shared}{K:Frag}{x C f:Addr}{ox:Obj}{od:Option Obj}
theorem Fn {Q:Option Value→Shared→Prop}(X:K.In s.heap)(I:InstAt s.heap x ox C od)(hs:findIn K (.ref C) "__next__"=some (some (.ref f)))(hf:isFn K (.ref f)=true)
  (h:wpAny M A (call (.ref f) [.ref x]) (fun v s'=>Q (some v) s') (fun e s'=>∃a o,e= .ref a∧s'.heap.get? a=some o∧o.cls= .type "StopIteration"∧Q none s') s):wpAny M A (pyNext (.ref x)) Q E s:=by
 unfold pyNext
 refine wpAny_bind (wpAny_attempt (special_fn (name:= "__next__") (args:= []) X I hs (beq_iff_eq.mp hf) (wpAny_mono h (fun v s' hq=>?_) (fun e s' he=>?_))))
 ·exact wpAny_pure hq
 ·obtain⟨a,o,rfl,ho,hc,hq⟩:=he
  k_extra "0q"
  exact wpAny_pure hq
theorem Fo {Q:Value→Shared→Prop}{g:Value}(X:K.In s.heap)(I:InstAt s.heap x ox C od)(hs:findIn K (.ref C) "__iter__"=some (some (.ref f)))(hf:isFn K (.ref f)=true)(hn:findIn K (.ref C) "__next__"=some (some g))
  (h:wpAny M A (call (.ref f) [.ref x]) (fun v s'=>v= .ref x∧K.In s'.heap∧InstAt s'.heap x ox C od∧Q (.ref x) s') E s):wpAny M A (pyIter (.ref x)) Q E s:=by
 have fin:wpAny M A (call (.ref f) [.ref x]>>=fun v=>pure (some v)) (fun r s'=>∃v,r=some v∧(v= .ref x∧K.In s'.heap∧InstAt s'.heap x ox C od∧Q (.ref x) s')) E s:=
  wpAny_bind (wpAny_mono h (fun v s' h'=>wpAny_pure ⟨v,rfl,h'⟩) fun _ _ z=>z)
 have one:∀refuse:Sem Value,wpAny M A (callSpecialIfBoundUnlessNone? (.ref x) "__iter__" refuse) (fun r s'=>∃v,r=some v∧(v= .ref x∧K.In s'.heap∧InstAt s'.heap x ox C od∧Q (.ref x) s')) E s:=by
  intro refuse
  simp only [callSpecialIfBoundUnlessNone?,bindSpecialIfBound?]
  refine wpAny_holding (wpAny_bind (wpAny_bind (wpAny_bind (I.type.here ((looks_findIn X hs).here ?_)))))
  k_extra "04N"
  have fin2:wpAny M A (if(Value.ref f==Value.none)=true then(refuse>>=fun v=>pure (some v)) else(call (.ref f) [.ref x]>>=fun v=>pure (some v))) (fun r s'=>∃v,r=some v∧(v= .ref x∧K.In s'.heap∧InstAt s'.heap x ox C od∧Q (.ref x) s')) E s:=by
   rw [if_neg (show¬((Value.ref f==Value.none)=true) from Bool.false_ne_true)]
   exact fin
  split
  ·exact wpAny_bind ((bind_fn X _ (beq_iff_eq.mp hf)).here (wpAny_pure (by exact fin2)))
  ·exact wpAny_tryCatch (wpAny_bind ((bind_fn X _ (beq_iff_eq.mp hf)).here (wpAny_pure (by exact fin2))))
 unfold pyIter
 refine wpAny_bind (wpAny_bind (I.type.here ((looks_findIn X hs).here ?_)))
 show wpAny M A (callSpecialIfBoundUnlessNone? (.ref x) "__iter__" _>>=_) Q E s
 refine wpAny_bind (wpAny_mono (one _) (fun r s' hr=>?_) fun _ _ z=>z)
 obtain⟨v,rfl,rfl,X',I',hv⟩:=hr
 exact wpAny_bind (wpAny_bind (I'.type.here ((looks_findIn X' hn).here (wpAny_pure hv))))
end
theorem Ae.up {base h h':Heap}{ou:List Env}{wr:List Addr}(S:Ae base ou h)(U:Up (AF ou) wr h h')(hw:∀a∈wr,base.get? a=none∧a∉AF ou):Ae base ou h':=by
 have fr:∀b∈AF ou,∀o,h.get? b=some o→∃sl,h'.get? b=some {o with slots:=sl}:=fun b hb o e=>(U b o e fun m=>(hw b m).2 hb).2 hb
 refine⟨fun b o e=>(U b o (S.stays b o e) fun m=>by rw [(hw b m).1] at e;cases e).1 fun m=>?_,?_,fun b hb=>?_⟩
 ·rw [(S.frames.mem m).1] at e;cases e
 ·have go:∀l:List Env,(∀b∈AF l,b∈AF ou)→h.FunFrames base l→h'.FunFrames base l:=by
   intro l
   induction l with
   |nil=>intro _ _;trivial
   |cons env r ih=>
    rintro sub ⟨a,⟨L,o,hf,hn,ho,hd⟩,c⟩
    obtain⟨sl,e⟩:=fr L (sub L (List.mem_filterMap.mpr ⟨env,.head _,hf⟩)) o ho
    refine⟨a,⟨L,_,hf,hn,e,hd⟩,ih (fun b hb=>sub b ?_) c⟩
    obtain⟨e',he',hf'⟩:=List.mem_filterMap.mp hb
    exact List.mem_filterMap.mpr ⟨e',.tail _ he',hf'⟩
  exact go ou (fun _ m=>m) S.frames
 ·k_extra "04U"
  obtain⟨sl,e'⟩:=fr b hb o e
  exact⟨_,es,n,e',d⟩
theorem CN.tells {base s₀ h':Heap}{ou:List Env}{wr:List Addr}{news:List (Addr×Obj)}{e:Addr}(S:Ae base ou s₀)(R:CN base ou (hideAll s₀ wr) news e h'):
  (∃o,h'.get? e=some o∧o.cls= .type "StopIteration")∧Up (AF ou) wr s₀ h'∧∀q∈news,h'.get? q.1=some q.2:=by
 obtain⟨t,vs,⟨⟨B,h1,h2,h3,h4,h5⟩,h6⟩,U⟩:=R
 refine⟨h4.there,fun b o e hb=>⟨fun m=>h4.1 b o (h2 b o (hideAll_get _ e hb) m),fun m=>?_⟩,fun q hq=>h4.1 _ _ (h3 q hq).1⟩
 obtain⟨o',es,n,e',d⟩:=S.dicts b m
 k_extra "03O"
 exact U b o (hideAll_get _ e hb) fun vs q=>by rw [d] at q;cases q
section
variable{prog:Program}{w:World}{A A₀:Around}{E:Value→Shared→Prop}{Q:Flow→Shared→Prop}{s:Shared}{env:Env}{g g₀ base:Heap}{ou:List Env}{L:Addr}{m:Str→Option Value}{nw:List (Addr×Obj)}
structure Gnd (A₀:Around) (base:Heap) (ou:List Env) (g₀:Heap) (L:Addr) (h:Heap) (m:Str→Option Value) (nw:List (Addr×Obj)) (g:Heap):Prop where
 turn:KtsTurn (AF ou) g₀ g
 fr:Fr g L h m
 news:News g L h nw
 below:Below A₀ base ou g
 dicts:KtsDicts (AF ou) g
inductive DH (A₀:Around) (base:Heap) (ou:List Env) (g₀:Heap) (L:Addr) (s:Shared) (J:Nat→(Str→Option Value)→List (Addr×Obj)→Prop) (n:Nat) (s₃:Shared):Prop
 |mk (g:Heap) (h':Heap) (tk:Nat) (m₂:Str→Option Value) (nw₂:List (Addr×Obj)) (n':Nat) (_:s₃={s with heap:=h',toks:=tk}) (_:Gnd A₀ base ou g₀ L h' m₂ nw₂ g) (_:n'<n) (_:J n' m₂ nw₂):DH A₀ base ou g₀ L s J n s₃
theorem DH.intro {J:Nat→(Str→Option Value)→List (Addr×Obj)→Prop}{n n' tk:Nat}{h':Heap}{m₂:Str→Option Value}{nw₂:List (Addr×Obj)}(G:Gnd A₀ base ou g₀ L h' m₂ nw₂ g)(hn:n'<n)(hJ:J n' m₂ nw₂):
  DH A₀ base ou g₀ L s J n {s with heap:=h',toks:=tk}:=⟨g,h',tk,m₂,nw₂,n',rfl,G,hn,hJ⟩
noncomputable def CO (prog:Program)(w:World)(A:Around)(env:Env)(target:PySem.Expr)(it:Value)(body:List Stmt)(Q:Flow→Shared→Prop)(E:Value→Shared→Prop)(fin:Shared→Prop)(r:Option Value)(s₁:Shared):Prop:=
 match r with
 |none=>Q .next s₁
 |some v=>wpAny (model prog w) A (letOwnedTupleGo target it v) (fun _ s₂=>wpAny (model prog w) A (assign target env v) (fun _ s₃=>wpAny (model prog w) A (execs body env) (WhFlow Q fin) E s₃) E s₂) E s₁
inductive EN (prog:Program) (w:World) (A A₀:Around) (base:Heap) (ou:List Env) (g₀:Heap) (L:Addr) (env:Env) (target:PySem.Expr) (body:List Stmt) (Q:Flow→Shared→Prop) (E:Value→Shared→Prop) (it:Value) (s₂:Shared):Prop
 |mk (J:Nat→(Str→Option Value)→List (Addr×Obj)→Prop) (n₀:Nat) (m:Str→Option Value) (nw:List (Addr×Obj)) (g:Heap) (_:Gnd A₀ base ou g₀ L s₂.heap m nw g) (_:J n₀ m nw) (_:∀n m₁ nw₁ h₁ tk₁ g₁,Gnd A₀ base ou g₀ L h₁ m₁ nw₁ g₁→J n m₁ nw₁→wpAny (model prog w) A (pyNext it) (CO prog w A env target it body Q E (DH A₀ base ou g₀ L s₂ J n)) E {s₂ with heap:=h₁,toks:=tk₁}):EN prog w A A₀ base ou g₀ L env target body Q E it s₂
theorem EN.of {target:PySem.Expr}{body:List Stmt}{it:Value}{s₂:Shared}(JJ:Value→Nat→(Str→Option Value)→List (Addr×Obj)→Prop)(n₀:Nat)(G:Gnd A₀ base ou g₀ L s₂.heap m nw g)(hJ:JJ it n₀ m nw)
  (turn:∀n m₁ nw₁ h₁ tk₁ g₁,Gnd A₀ base ou g₀ L h₁ m₁ nw₁ g₁→JJ it n m₁ nw₁→wpAny (model prog w) A (pyNext it) (CO prog w A env target it body Q E (DH A₀ base ou g₀ L s₂ (JJ it) n)) E {s₂ with heap:=h₁,toks:=tk₁}):
  EN prog w A A₀ base ou g₀ L env target body Q E it s₂:=⟨JJ it,n₀,m,nw,g,G,hJ,turn⟩
theorem Pq (A₀:Around)(base:Heap)(ou:List Env)(g₀:Heap)(L:Addr){target iter:PySem.Expr}{body:List Stmt}{pos:Pos}
  (h:wpAny (model prog w) A (eval iter env) (fun xv s₁=>wpAny (model prog w) A (pyIter xv) (EN prog w A A₀ base ou g₀ L env target body Q E) E s₁) E s)
  (hs:∀x,foldedSetIterable iter env x=pure x:=by intro _;rfl) (hE:PassesOwn (model prog w) A env E:=by passes_own):
  wpAny (model prog w) A (exec (.For target iter body [] pos) env) Q E s:=by
 k_extra "03Z"
 obtain⟨J,n₀,m,nw,g,G,hJ,turn⟩:=h₂
 refine⟨fun n s'=>DH A₀ base ou g₀ L s₂ (fun k m nw=>k=n∧J k m nw) (n+1) s',fun n=>DH A₀ base ou g₀ L s₂ J n,n₀,.mk _ _ _ _ _ n₀ rfl G (Nat.lt_succ_self _) ⟨rfl,hJ⟩,?_,?_⟩
 ·rintro n s ⟨g',h',tk,m₂,nw₂,n',e,G₂,hn,J₂⟩
  exact⟨n',hn,g',h',tk,m₂,nw₂,n',e,G₂,Nat.lt_succ_self _,rfl,J₂⟩
 ·rintro n s' ⟨g₁,h₁,tk₁,m₁,nw₁,k,rfl,G₁,_,rfl,J₁⟩
  exact wpAny_mono (turn k m₁ nw₁ h₁ tk₁ g₁ G₁ J₁) (fun r s₁ hr=>by cases r with|none=>exact wpAny_execs_nil hr|some v=>exact hr) fun _ _ e=>e
theorem Gnd.after {h h':Heap}{g:Heap}(G:Gnd A₀ base ou g₀ L h m nw g){wr:List Addr}(U:Up (L::AF ou) wr h h')(hw:∀x∈wr,g.get? x=none∧x≠L)(nw':List (Addr×Obj))
  (hn:∀q∈nw',(q∈nw∧q.1∉wr)∨(h'.get? q.1=some q.2∧q.1≠L∧g.get? q.1=none)):∃g',Gnd A₀ base ou g₀ L h' m nw' g':=by
 obtain⟨g',T,F,B,D,k⟩:=Fb G.below G.dicts G.fr G.news U hw
 refine⟨g',G.turn.trans T,F,fun q hq=>?_,B,D⟩
 rcases hn q hq with⟨a,b⟩|⟨a,b,c⟩
 ·exact k q a b
 ·exact⟨a,b,T.none_ _ c⟩
end
section
variable{prog:Program}{w:World}{A:Around}{E:Value→Shared→Prop}{s:Shared}{g:Heap}{L d:Addr}{m:Str→Option Value}{news news':List (Addr×Obj)}
theorem Kx {us:List Value}{n:Nat}{k:Int}{t:Tok}{v:Value}{Q:Unit→Shared→Prop}(F:Fr g L s.heap m)(N:News g L s.heap news)(U:Upd d (listOf us.toArray n) (listOf (us.set k.toNat v).toArray n) news news')(h0:0≤k)(h1:k<us.length)(hfit:k<2^63)
  (h:∀h',Fr g L h' m→News g L h' news'→Q () {s with heap:=h'}):
  wpAny (model prog w) A (setItem (.ref d) (.int k t) v) Q E s:=by
 k_extra "04i"
 have z:=N (d,listOf us.toArray n) (List.mem_append.mpr (.inr (.head _)))
 refine ki_setAt z.1 h0 hfit (by simpa using h1) (h _ (F.change (Heap.SameBut.update ..) z.2.1 z.2.2) (ki_turn _ N x y ?_ ?_))
 ·apply Array.toList_inj.mp
  simp
 ·simp
theorem Da {I D:Addr}{oI:Obj}{as:List Addr}{k:Nat}{rest:List (Addr×Obj)}{Q:Option Value→Shared→Prop}(hh:A.handled=none)(F:Fr g L s.heap m)(N:News g L s.heap ((I,oI)::rest))(cI:oI.cls= .type "list_iterator")(dI:oI.data= .fields #[.ref D,.int k 0])(hl:s.heap.IsList D (as.map Value.ref).toArray)
  (hne:∀p∈rest,p.1≠I)
  (h1:∀a,as[k]?=some a→∀h' oI',oI'.cls= .type "list_iterator"→oI'.data= .fields #[.ref D,.int (k+1:Nat) 0]→Fr g L h' m→News g L h' ((I,oI')::rest)→Q (some (.ref a)) {s with heap:=h'})
  (h2:as[k]?=none→∀h',Fr g L h' m→News g L h' rest→Q none {s with heap:=h'}):wpAny (model prog w) A (pyNext (.ref I)) Q E s:=by
 have hI:=N _ (.head _)
 k_extra "04z"
 cases e:as[k]? with
 |some a=>
  refine wpAny_pyNext_list_item hit hl (x:=.ref a) (by simp [e]) fun h' hit' hs'=>?_
  k_extra "04o"
  k_extra "01Z"
  k_extra "02"
  ·exact⟨eo,hI.2⟩
  ·k_extra "0u"
 |none=>
  k_extra "03n"
  k_extra "0c"
  ·k_extra "02d"
   k_extra "01C"
  ·have:=hI.2.2
   k_extra "048"
end
section
variable{prog:Program}{w:World}{A:Around}{E:Value→Shared→Prop}{s:Shared}{g:Heap}{L D:Addr}{m:Str→Option Value}{news:List (Addr×Obj)}
theorem Ad {items:Array Value}{Q:Value→Shared→Prop}(F:Fr g L s.heap m)(N:News g L s.heap news)(hl:s.heap.IsList D items)
  (h:∀I h',Fr g L h' m→News g L h' ((I,{cls:=.type "list_iterator",data:=.fields #[.ref D,.int 0 0]})::news)→(∀p∈news,p.1<I)→Q (.ref I) {s with heap:=h'}):
  wpAny (model prog w) A (pyIter (.ref D)) Q E s:=
 wpAny_pyIter_list hl (h _ _ (F.push _) (News.push F N _ rfl) (fun q hq=>Heap.lt_size (N q hq).1))
end
section
variable{prog:Program}{w:World}{A:Around}{E:Value→Shared→Prop}{s:Shared}{g:Heap}{L r:Addr}{m:Str→Option Value}{news:List (Addr×Obj)}
theorem Bf {a b:Int}{t u v:Tok}{Q:Value→Shared→Prop}(F:Fr g L s.heap m)(N:News g L s.heap news)(hr:IsRange s.heap r a b 1 t u v)(ha:0≤a)(hab:a≤b)(hb:b≤1000)
  (h:∀I h',Fr g L h' m→News g L h' ((I,AJ a (b-a) 1)::news)→(∀p∈news,p.1<I)→Q (.ref I) {s with heap:=h'}):
  wpAny (model prog w) A (pyIter (.ref r)) Q E s:=by
 have e:Builtin.Range.rangeSize a b 1=b-a:=by
  unfold Builtin.Range.rangeSize
  rw [if_pos (by decide)]
  by_cases q:a<b
  ·rw [if_pos q];exact Ar.q505
  ·rw [if_neg q];exact(Int.sub_eq_zero_of_eq (Int.le_antisymm (Int.not_lt.mp q) hab)).symm
 have hs:Builtin.Range.small a b 1=true:=small_one (by omega) (by exact Int.lt_of_le_of_lt (Int.le_trans hab hb) (by decide)) (by exact Int.le_trans (by decide) (Int.le_trans ha hab)) (by exact Int.lt_of_le_of_lt hb (by decide))
 refine wpAny_pyIter_range hr hs ?_
 rw [e]
 exact h _ _ (F.push _) (News.push F N _ rfl) fun q hq=>Heap.lt_size (N q hq).1
end
section
open PySem.Float64
theorem Pn {t t':Nat}(h:V t=V t'):t=t':=by
 rcases Nat.lt_trichotomy t t' with a|a|a
 ·exact absurd h (Nat.ne_of_lt (V_lt a))
 ·exact a
 ·exact absurd h (Nat.ne_of_gt (V_lt a))
theorem JU {k:Nat}(h0:0<k)(h:k<2^53){j:Nat}(hj:52≤j)(hj2:j≤2000):∃t,V t=k*2^j∧t<2001*2^52+2^53:=by
 have hl:k.log2≤52:=by
  have:=(Nat.log2_lt (Nat.ne_of_gt h0)).mpr h
  exact Ar.upL ‹_› (by rfl)
 have h1:2^k.log2≤k:=Nat.log2_self_le (Nat.ne_of_gt h0)
 have h2:k<2^(k.log2+1):=Nat.lt_log2_self
 generalize k.log2=l at*
 have hc:(52-l)+l=52:=by exact Ar.q203 hl
 generalize 52-l=c at hc
 have e1:2^52=2^c*2^l:=by rw [←Nat.pow_add,hc]
 have e2:2^53=2^c*2^(l+1):=by rw [←Nat.pow_add];congr 1;omega
 have hp:0<2^c:=Nat.two_pow_pos c
 have b1:2^52≤k*2^c:=by rw [e1,Nat.mul_comm k];exact Nat.mul_le_mul_left _ h1
 have b2:k*2^c<2^53:=by rw [e2,Nat.mul_comm k];exact Nat.mul_lt_mul_of_pos_left h2 hp
 refine⟨(j-c)*2^52+k*2^c,?_,?_⟩
 ·rw [V_at (Nat.le_of_lt b2) (.inl b1),Nat.mul_assoc,←Nat.pow_add]
  congr 2
  exact Ar.q210 hj hc
 ·have:(j-c)*2^52≤2001*2^52:=Nat.mul_le_mul_right _ (by exact Ar.q197 hj2 hl hc)
  exact Nat.lt_of_le_of_lt (Nat.add_le_add_right this _) (Nat.add_lt_add_left b2 _)
theorem CE {r:UInt64}{neg:Bool}{W D t:Nat}(h:Right r neg W D)(hD:0<D)(e:W=D*V t)(ht:t<2001*2^52+2^53):r=pack neg t:=by
 obtain⟨t',rfl,hle,hinf,near⟩:=h
 have hb:V t<2^53*2^2003:=by
  have h1:V (2003*2^52+2^52)=2^52*2^2003:=V_at (by decide) (.inl (Nat.le_refl _))
  have h2:V t<V (2003*2^52+2^52):=V_lt (by exact Ar.upLL ‹_› (by rfl))
  rw [h1] at h2
  exact Nat.lt_of_lt_of_le h2 (Nat.mul_le_mul_right _ (by decide))
 have hlt:t'<infMag:=by
  refine Nat.lt_of_le_of_ne hle fun q=>?_
  have h1:=hinf.mp q
  rw [e] at h1
  have h2:D*((2^54-1)*2^2045)≤D*(2*V t):=by
   rw [show D*(2*V t)=2*(D*V t) by rw [Nat.mul_left_comm]]
   exact h1
  have h3:=Nat.le_of_mul_le_mul_left h2 hD
  have e3:(2:Nat)^2045=2^42*2^2003:=by rw [←Nat.pow_add]
  rw [e3] at h3
  have hK:0<(2:Nat)^2003:=Nat.two_pow_pos _
  generalize (2:Nat)^2003=K at*
  omega
 have h0:=(near hlt t).1
 rw [e] at h0
 have e4:dist (D*V t) (D*V t)=0:=by unfold dist;omega
 rw [e4] at h0
 have e5:D*V t'=D*V t:=by unfold dist at h0;exact Nat.le_antisymm (Nat.le_of_sub_eq_zero (Nat.add_eq_zero_iff.mp (Nat.le_zero.mp h0)).2) (Nat.le_of_sub_eq_zero (Nat.add_eq_zero_iff.mp (Nat.le_zero.mp h0)).1)
 rw [Pn (Nat.eq_of_mul_eq_mul_left hD e5)]
noncomputable def hf (k:Int):UInt64:=ofFrac (decide (k<0)) k.natAbs 2
theorem HK {t:Nat}(h:t<2001*2^52+2^53):t<infMag:=by unfold infMag;exact Ar.upLL ‹_› (by rfl)
theorem FG:hf 0=pack false 0:=by
 unfold hf ofFrac roundMag
 simp
theorem HS {k:Int}(h:k.natAbs<2^53):∃t,hf k=pack (decide (k<0)) t∧V t=k.natAbs*2^1073∧t<2001*2^52+2^53:=by
 by_cases h0:k=0
 ·subst h0
  exact⟨0,by rw [FG];rfl,by rw [V_zero];simp,by decide⟩
 ·obtain⟨t,e,ht⟩:=JU (k:=k.natAbs) (by exact Ar.q276 h0) h (j:=1073) (by decide) (by decide)
  have hr:Right (hf k) (decide (k<0)) (k.natAbs*2^1073) 1:=ofFrac_right (by decide) (by rw [Nat.mul_one,show(2:Nat)^1074=2^1073*2 from Nat.pow_succ ..];exact(Nat.mul_assoc ..).symm) (by decide)
  exact⟨t,CE hr (by decide) (by rw [Nat.one_mul,e]) ht,e,ht⟩
theorem Ce {k:Int}(h:k.natAbs<2^53):val (hf k)=k*(2^1073:Nat):=by
 k_extra "05g"
 rw [e,val_pack _ (HK ht),hv,sgn_mul]
 congr 1
 unfold sgn
 by_cases hk:k<0
 ·simp [hk];exact Ar.r56 hk
 ·simp [hk];exact Int.natAbs_of_nonneg (Int.not_lt.mp hk)
theorem Cr {r:UInt64}{k:Int}(h:k.natAbs<2^53)(hr:Right r (decide (k<0)) (k.natAbs*2^1073) 1):r=hf k:=by
 k_extra "05g"
 rw [e]
 exact CE hr (by decide) (by rw [Nat.one_mul,hv]) ht
theorem Dr {i:Int}(h:(2*i).natAbs<2^53):ofInt i=hf (2*i):=by
 refine Cr h ?_
 have hr:=ofInt_right i
 have e1:decide (2*i<0)=decide (i<0):=by rw [decide_eq_decide];exact⟨fun q=>Int.not_le.mp fun r=>Int.not_le.mpr q (Int.mul_nonneg (by decide) r),Int.mul_neg_of_pos_of_neg (by decide)⟩
 have e2:(2*i).natAbs*2^1073=i.natAbs*2^1074:=by
  rw [show(2*i).natAbs=i.natAbs*2 by exact Ar.r10 e1,Nat.mul_assoc,show(2:Nat)*2^1073=2^1074 from(Nat.pow_succ' ..).symm]
 rw [e1,e2]
 exact hr
theorem Bt {k:Int}(h:k.natAbs<2^53):∃m e,decode (hf k)= .fin (decide (k<0)) m e:=by
 k_extra "05g"
 obtain⟨m,x,hd,_⟩:=decode_pack (decide (k<0)) (HK ht)
 exact⟨m,x,by rw [e];exact hd⟩
theorem EK {a b:Int}(ha:a.natAbs<2^53)(hb:b.natAbs<2^53)(hab:(a+b).natAbs<2^53):add (hf a) (hf b)=hf (a+b):=by
 k_extra "05h"
 obtain⟨n,y,hy⟩:=Bt hb
 have hs:=add_right hx hy
 rw [Ce ha,Ce hb,←Int.add_mul] at hs
 k_extra "036"
 generalize hK:(2^1073:Nat)=K at*
 by_cases h0:a+b=0
 ·rw [hs.1 (by rw [h0];simp),h0]
  have e1:(decide (a<0)&&decide (b<0))=false:=by
   rw [Bool.and_eq_false_iff]
   by_cases q:a<0
   ·right;simp;omega
   ·left;simp;exact Ar.q371 h0 q
  rw [e1,FG]
  rfl
 ·have h1:=hs.2 (Int.mul_ne_zero h0 (Int.ne_of_gt hp))
  refine Cr hab ?_
  have e1:decide ((a+b)*(K:Int)<0)=decide (a+b<0):=by
   rw [decide_eq_decide]
   constructor
   ·intro q
    rcases Int.lt_or_le (a+b) 0 with z|z
    ·exact z
    ·k_extra "02M"
   ·intro q;exact Int.mul_neg_of_neg_of_pos q hp
  rw [e1,Int.natAbs_mul,Int.natAbs_natCast] at h1
  rw [hK]
  exact h1
end
section
open PySem.Float64
theorem Gr {a k:Int}(ha:(2*a).natAbs<2^53)(ha0:0<a)(hk:k.natAbs<2^53)(hp:(a*k).natAbs<2^53):mul (ofInt a) (hf k)=hf (a*k):=by
 rw [Dr ha]
 k_extra "05h"
 obtain⟨n,y,hy⟩:=Bt hk
 have hr:=mul_right hx hy
 rw [Ce ha,Ce hk] at hr
 obtain⟨t,e,hv,ht⟩:=HS hp
 rw [e]
 have e1:(decide (2*a<0) !=decide (k<0))=decide (a*k<0):=by
  have h1:decide (2*a<0)=false:=by simp;omega
  rw [h1,Bool.false_bne,decide_eq_decide]
  constructor
  ·intro h
   exact Int.mul_neg_of_pos_of_neg (by assumption) h
  ·intro h
   rcases Int.lt_or_le k 0 with q|q
   ·exact q
   ·exact absurd (Int.mul_nonneg (Int.le_of_lt ha0) q) (by omega)
 rw [e1] at hr
 refine CE hr (Nat.two_pow_pos _) ?_ ht
 rw [hv,Int.natAbs_mul,Int.natAbs_mul,Int.natAbs_mul,Int.natAbs_mul,Int.natAbs_natCast,show(2:Nat)^1074=2*2^1073 from Nat.pow_succ' ..]
 generalize (2:Nat)^1073=K
 show 2*a.natAbs*K*(k.natAbs*K)=_
 ac_rfl
theorem DF {k j:Int}(hk:k.natAbs<2^53):(cmpInt (hf k) j==some Ordering.eq)=decide (k=2*j):=by
 obtain⟨m,e,hd⟩:=Bt hk
 have hv:=Ce hk
 rw [val_eq hd,sgn_mul] at hv
 have hge:=decode_ge hd
 unfold cmpInt
 rw [hd]
 dsimp only
 generalize sgn (decide (k<0)) m=S at*
 have key:∀(x y:Int),(some (compare x y)==some Ordering.eq)=decide (x=y):=fun x y=>by
  by_cases h:x=y
  ·subst h;simp
  ·simp [h]
 have hP:(2:Nat)^1074=2*2^1073:=Nat.pow_succ' ..
 have hK:(0:Int)<((2^1073:Nat):Int):=Int.ofNat_lt.mpr (Nat.two_pow_pos _)
 by_cases he:e≥0
 ·rw [if_pos he,key,decide_eq_decide]
  have e1:(e+1074).toNat=e.toNat+1074:=by exact Int.toNat_add he (by decide)
  rw [e1,Nat.pow_add,hP] at hv
  generalize (2:Nat)^1073=K at*
  generalize e.toNat=a at*
  have h2:S*(2^a:Int)*2=k:=by
   have:(S*(2^a:Int)*2)*(K:Int)=k*K:=by
    rw [←hv]
    simp only [Int.natCast_mul,Int.natCast_pow]
    show S*2^a*2*(K:Int)=S*(2^a*(2*(K:Int)))
    ac_rfl
   k_extra "04l"
  generalize (S*(2^a:Int))=Y at*
  exact Ar.r53 h2
 ·rw [if_neg he,key,decide_eq_decide]
  obtain⟨a,ha⟩:∃a:Nat,-e=a:=⟨(-e).toNat,by exact Ar.q275 he⟩
  have e2:(-e).toNat=a:=by exact Ar.q232 he ha
  have e1:(e+1074).toNat+a=1074:=by exact Ar.r38 hge ha
  rw [e2]
  generalize (e+1074).toNat=b at*
  have hb:(2:Nat)^b*2^a=2*2^1073:=by rw [←Nat.pow_add,e1,hP]
  have ha2:(0:Int)<((2^a:Nat):Int):=Int.ofNat_lt.mpr (Nat.two_pow_pos _)
  generalize (2:Nat)^1073=K at*
  have h2:k*((2^a:Nat):Int)=2*S:=by
   have:(k*((2^a:Nat):Int))*(K:Int)=(2*S)*K:=by
    rw [Int.mul_assoc,Int.mul_comm ((2^a:Nat):Int) (K:Int),←Int.mul_assoc,←hv,Int.mul_assoc,←Int.natCast_mul,hb]
    simp only [Int.natCast_mul]
    show S*(2*(K:Int))=2*S*K
    ac_rfl
   k_extra "04l"
  have hc:((2^a:Nat):Int)=(2:Int)^a:=by simp
  rw [hc] at h2 ha2
  generalize (2:Int)^a=Y at*
  constructor
  ·rintro rfl
   have:k*Y=(2*j)*Y:=by rw [h2,Int.mul_assoc]
   exact Int.eq_of_mul_eq_mul_right (Int.ne_of_gt ha2) this
  ·rintro rfl
   have:2*(j*Y)=2*S:=by rw [←h2,Int.mul_assoc]
   exact Ar.q160 this
end
section
open PySem.Float64
theorem Fy:hf 0=0:=by rw [FG];rfl
theorem Ky {a b:Int}(ha:a.natAbs<2^53)(hb:b.natAbs<2^53)(hab:(a-b).natAbs<2^53)(hne:a≠b):sub (hf a) (hf b)=hf (a-b):=by
 k_extra "05h"
 obtain⟨n,y,hy⟩:=Bt hb
 have hs:=sub_right hx hy
 rw [Ce ha,Ce hb,←Int.sub_mul] at hs
 k_extra "036"
 generalize hK:(2^1073:Nat)=K at*
 have h1:=hs.2 (Int.mul_ne_zero (by exact fun q=>hne (Int.sub_eq_zero.mp q)) (Int.ne_of_gt hp))
 refine Cr hab ?_
 have e1:decide ((a-b)*(K:Int)<0)=decide (a-b<0):=by
  rw [decide_eq_decide]
  constructor
  ·intro q
   rcases Int.lt_or_le (a-b) 0 with z|z
   ·exact z
   ·k_extra "02M"
  ·intro q;exact Int.mul_neg_of_neg_of_pos q hp
 rw [e1,Int.natAbs_mul,Int.natAbs_natCast] at h1
 rw [hK]
 exact h1
theorem HP {a b:Int}(ha:0<a)(hb:0<b)(h:a+b<2^53):add (sub (hf b) (hf (a+b))) (hf a)=0:=by
 rw [Ky (by exact Ar.q157 ha hb h) (by exact Ar.q149 ha hb h) (by exact Ar.r21 ha hb h) (by omega),show b-(a+b)= -a by omega,EK (by exact Ar.q146 ha hb h) (by exact Ar.q155 ha hb h) (by omega),show-a+a=0 by omega,Fy]
theorem Ik:∀(ks:List Int) (T:Int),0<T→(∀k∈ks,0<k)→T+ks.sum<2^53→Num.sumFloats (hf T) 0 (ks.map fun k=>WData.float (hf k))=some (.float (hf (T+ks.sum)))
 | [],T,hT,_,h=>by
  simp only [List.map_nil,List.sum_nil,Int.add_zero]
  unfold Num.sumFloats Num.settled
  have e:(isFinite 0&&!isZero 0)=false:=by decide+kernel
  rw [e];rfl
 |k::ks,T,hT,hk,h=>by
  have k0:=hk k (.head _)
  have hs:0≤ks.sum:=by
   have:∀l:List Int,(∀k∈l,0<k)→0≤l.sum:=by
    intro l
    induction l with
    |nil=>intro _;simp
    |cons a r ih=>
     intro h
     rw [List.sum_cons]
     have:=h a (.head _)
     have:=ih fun k hk=>h k (.tail _ hk)
     exact Ar.q320 ‹_› this
   exact this ks fun q hq=>hk q (.tail _ hq)
  rw [List.sum_cons] at h⊢
  rw [List.map_cons]
  unfold Num.sumFloats
  dsimp only
  rw [EK (by exact Ar.q130 hT h k0 hs) (by exact Ar.q136 hT h k0 hs) (by exact Ar.q115 hT h k0 hs)]
  have e1:add (sub (hf k) (hf (T+k))) (hf T)=0:=HP hT k0 (by exact Ar.q381 h hs)
  have e2:add (sub (hf T) (hf (T+k))) (hf k)=0:=by rw [show T+k=k+T by omega];exact HP k0 hT (by exact Ar.r127 h hs)
  have e3:∀b:Bool,(if b=true then add (sub (hf k) (hf (T+k))) (hf T) else add (sub (hf T) (hf (T+k))) (hf k))=0:=fun b=>by cases b<;>simp [e1,e2]
  rw [e3]
  have e4:add 0 0=0:=by rw [←Fy,EK (by decide) (by decide) (by decide)];rfl
  rw [e4,Ik ks (T+k) (by exact Ar.q481 hT k0) (fun q hq=>hk q (.tail _ hq)) (by exact Ar.q372 h)]
  congr 3
  omega
theorem Jp {k:Int}{ks:List Int}(h0:∀q∈k::ks,0<q)(h:(k::ks).sum<2^53)(hk:k<2^53):Num.sumInts 0 ((k::ks).map fun k=>WData.float (hf k))=some (.float (hf (k::ks).sum)):=by
 have k0:=h0 k (.head _)
 rw [List.sum_cons] at h⊢
 rw [List.map_cons]
 unfold Num.sumInts
 rw [Dr (by decide),EK (by decide) (by exact Ar.q177 hk k0) (by exact Ar.q156 hk k0)]
 rw [show 2*0+k=k by omega]
 exact Ik ks k k0 (fun q hq=>h0 q (.tail _ hq)) h
end
section
variable{prog:Program}{w:World}{A:Around}{s:Shared}
theorem Ct {it:Addr}{x left step:Int}{Q:Value→Shared→Prop}{E:Value→Shared→Prop}(hit:IsRangeIter s.heap it x left step)(hleft:0<left)
  (hQ:∀h',IsRangeIter h' it (x+step) (left-1) step→Heap.SameBut it s.heap h'→Q (.int x s.toks) {s with heap:=h',toks:=s.toks+1}):
  wpAny (model prog w) A (Builtin.SmallTypes.nextOf (.ref it)) Q E s:=by
 k_extra "03Q"
 k_extra "03K"
 refine wpAny_bind (wpAny_callSpecial?_slot (name:=Str.ofString "__next__") hT F.slot_range_iterator_next
  (call_meets F.slot_range_iterator_next hT F.entry_range_iterator_next (F.args_range_iterator_next_1 _) (AutoRange.range_iterator___next___range_iterator_1 it x left step (by omega)) ⟨hit,?_⟩))
 exact wpAny_pure (hQ _ (Heap.get?_update_self _ (Heap.get?_update_self _ hit rfl) rfl) ((Heap.SameBut.update ..).trans (Heap.SameBut.update ..)))
theorem DC {it:Addr}{x left step:Int}{Q:Value→Shared→Prop}{E:Value→Shared→Prop}(hh:A.handled=none)(hit:IsRangeIter s.heap it x left step)(hleft:left≤0)
  (hE:∀h' e,(∃o,h'.get? e=some o∧o.cls= .type "StopIteration")→(∀b o,s.heap.get? b=some o→h'.get? b=some o)→E (.ref e) {s with heap:=h'}):
  wpAny (model prog w) A (Builtin.SmallTypes.nextOf (.ref it)) Q E s:=by
 k_extra "03Q"
 k_extra "03K"
 refine wpAny_bind (wpAny_callSpecial?_slot (name:=Str.ofString "__next__") hT F.slot_range_iterator_next
  (wpAny_call_entry F.slot_range_iterator_next hT F.entry_range_iterator_next ?_ (F.args_range_iterator_next_1 _)))
 k_extra "01v"
 refine wpAny_bind (wpAny_field hit rfl (x:=rawInt x) rfl ?_)
 k_extra "024"
 refine wpAny_bind (wpAny_field hit rfl (x:=rawInt left) rfl ?_)
 show wpAny _ _ (field (.ref it) 2>>=_) _ _ s
 refine wpAny_bind (wpAny_field hit rfl (x:=rawInt step) rfl ?_)
 show wpAny _ _ (if left≤0 then _ else _) _ _ s
 rw [if_pos hleft]
 have go:∀h' e,Heap.NewExc s.heap h' e "StopIteration"→E (.ref e) {s with heap:=h'}:=fun h' e hn=>hE h' e (by obtain⟨o,t,a,b,c⟩:=hn.there;exact⟨o,a,b⟩) hn.keeps
 first
 |exact Br (A:=A.in1) hh go
 |exact wpAny_bind (wpAny_rule (Br (A:=A.in1) hh go))
 |exact wpAny_bind (wpAny_rule (wpAny_bind (Br (A:=A.in1) hh go)))
theorem GH {A:Around}{it:Addr}{x left step:Int}(hl:0<left):
  Draws prog w A (.ref it) [it] (fun h=>IsRangeIter h it x left step) (fun v h'=>(∃t,v= .int x t)∧IsRangeIter h' it (x+step) (left-1) step):=fun s Q E hp hq=>
 Ct hp hl fun h' hi hs=>hq _ h' _ ⟨⟨_,rfl⟩,hi⟩ fun b o hb e=>hs.extBut b o (fun q=>hb (by rw [q];exact .head _)) e
theorem GA {A:Around}(hh:A.handled=none){it:Addr}{x left step:Int}(hl:left≤0):HW prog w A (.ref it) [it] (fun h=>IsRangeIter h it x left step):=fun s Q E hp hq=>
 DC hh hp hl fun h' e he hs=>hq h' s.toks e he fun b o _ e=>hs b o e
end
section
variable{prog:Program}{w:World}{A:Around}{E:Value→Shared→Prop}{s:Shared}{g:Heap}{L z TO TI RI LI D:Addr}{m:Str→Option Value}{rest:List (Addr×Obj)}{f1:Bool}{c1 c2:Value}{x left step:Int}{k:Nat}{xs:Array Value}{v:Value}
noncomputable abbrev Bx (z TO TI RI LI:Addr)(f0:Value)(f1:Bool)(c1 c2:Value)(x left step:Int)(oL:Obj)(rest:List (Addr×Obj)):List (Addr×Obj):=
 (z,BO f0 f1 TI TO)::(TO,AT c1 c2)::(RI,AJ x left step)::(LI,oL)::(TI,AT (.ref RI) (.ref LI))::rest
theorem FT {Q:Option Value→Shared→Prop}(FF:Fr g L s.heap m)(N:News g L s.heap (Bx z TO TI RI LI .none f1 c1 c2 x left step oL rest))(cL:oL.cls= .type "list_iterator")(dL:oL.data= .fields #[.ref D,.int (k:Nat) 0])(hTT:TI≠TO)(hl:s.heap.IsList D xs)(hx:xs[k]?=some v)(hleft:0<left)
  (hr:∀p∈rest,p.1≠z∧p.1≠TO∧p.1≠RI∧p.1≠LI)
  (h:∀T h' tk t oL',oL'.cls= .type "list_iterator"→oL'.data= .fields #[.ref D,.int (k+1:Nat) 0]→Fr g L h' m→News g L h' ((T,AT (.int x t) v)::Bx z TO TI RI LI (rawInt T) false (.int x t) v (x+step) (left-1) step oL' rest)→s.heap.get? T=none→Q (some (.ref T)) {s with heap:=h',toks:=tk}):
  wpAny (model prog w) A (pyNext (.ref z)) Q E s:=by
 have ez:=N _ (.head _)
 have eTO:=N _ mm1
 have eRI:=N _ mm2
 have eLI:=N _ mm3
 have eTI:=N _ mm4
 obtain⟨oD,eD,cD,nD,dD⟩:=hl
 have nTOz:TO≠z:=ocl eTO.1 ez.1 rfl rfl rfl
 have nRIz:RI≠z:=ocl eRI.1 ez.1 rfl rfl rfl
 k_extra "02r"
 have nTIz:TI≠z:=ocl eTI.1 ez.1 rfl rfl rfl
 have nRITO:RI≠TO:=ocl eRI.1 eTO.1 rfl rfl rfl
 have nLITO:LI≠TO:=ocl eLI.1 eTO.1 (by first|exact cL|rfl) (by first|exact cL|rfl) rfl
 k_extra "02g"
 have nTIRI:TI≠RI:=ocl eTI.1 eRI.1 rfl rfl rfl
 have nTILI:TI≠LI:=ocl eTI.1 eLI.1 (by first|exact cL|rfl) (by first|exact cL|rfl) rfl
 have nDz:D≠z:=ocl eD ez.1 cD rfl rfl
 have nDTO:D≠TO:=ocl eD eTO.1 cD rfl rfl
 have nDRI:D≠RI:=ocl eD eRI.1 cD rfl rfl
 have hT:s.TypeIs (.ref z) "zip":=⟨_,ez.1,rfl⟩
 unfold pyNext
 k_extra "06"
 refine Ck (wr1:= [RI]) (wr2:= [LI]) ez.1 eTI.1 eTO.1 nTOz (GH (x:=x) (left:=left) (step:=step) hleft) (Cg (l:=D) (k:=k) hx) ?_ ?_ ?_ ?_ ?_ ?_ ?_
 ·exact fun h1 k1=>k1 _ _ nRIz eRI.1
 ·intro h1 h2 v' q1 k12 k2
  exact⟨⟨_,k2 _ _ nLIz nLITO (by simp [nLIRI]) eLI.1,cL,dL⟩,⟨oD,k2 _ _ nDz nDTO (by simp [nDRI]) eD,cD,nD,dD⟩⟩
 ·simp [nRIz.symm]
 ·simp [nLIz.symm]
 ·simp [nRITO.symm]
 ·simp [nLITO.symm]
 ·rintro x' y h1 h2 h3 h4 h5 tk ⟨⟨t,rfl⟩,q1⟩ k12 k23 ⟨rfl,q2⟩ k34 eT k4 k5 ez5 eT5
  k_extra "0W"
  have eRI5:h5.get? RI=some (AJ (x+step) (left-1) step):=k5 _ _ nRIz (k34 _ _ nRITO (k23 _ _ (by simp [nLIRI.symm]) (k12 _ _ nRITO q1)))
  obtain⟨oL',eL3,cL',dL'⟩:=q2
  have eLI5:h5.get? LI=some oL':=k5 _ _ nLIz (k34 _ _ nLITO eL3)
  have k05:∀b o,s.heap.get? b=some o→b≠z→b≠TO→b≠RI→b≠LI→h5.get? b=some o:=fun b o e n1 n2 n3 n4=>k5 b o n1 (k4 b o n1 n2 (by simp [n3]) (by simp [n4]) e)
  have F5:=BP FF [z,TO,RI,LI] (fun b o e hb=>by
   k_extra "028"
   exact k05 b o e hb.1 hb.2.1 hb.2.2.1 hb.2.2.2) (by
   intro q hq
   k_extra "01"
   k_extra "04W"
   ·exact⟨ez.2.2,ez.2.1⟩
   ·exact⟨eTO.2.2,eTO.2.1⟩
   ·exact⟨eRI.2.2,eRI.2.1⟩
   ·exact⟨eLI.2.2,eLI.2.1⟩)
  have fT:s.heap.get? h4.objs.size=none:=Cf fun o e=>by
   have n1:h4.objs.size≠z:=ocl eT5 ez5 rfl rfl rfl
   have n2:h4.objs.size≠TO:=(hsz _ _ eT).symm
   have n3:h4.objs.size≠RI:=(hsz _ _ (k34 _ _ nRITO (k23 _ _ (by simp [nLIRI.symm]) (k12 _ _ nRITO q1)))).symm
   have n4:h4.objs.size≠LI:=(hsz _ _ (k34 _ _ nLITO eL3)).symm
   exact hsz _ _ (k4 _ o n1 n2 (by simp [n3]) (by simp [n4]) e) rfl
  refine wpAny_pure (h _ _ _ t oL' cL' dL' F5 (Al FF (fun p hp=>?_) fT eT5) fT)
  k_extra "04X"
  k_extra "04S"
  ·exact⟨ez5,ez.2⟩
  ·exact⟨k5 _ _ nTOz eT,eTO.2⟩
  ·exact⟨eRI5,eRI.2⟩
  ·exact⟨eLI5,eLI.2⟩
  ·exact⟨k05 _ _ eTI.1 nTIz hTT nTIRI nTILI,eTI.2⟩
  ·k_extra "03y"
   have n:=hr p hp
   exact⟨k05 _ _ e.1 n.1 n.2.1 n.2.2.1 n.2.2.2,e.2⟩
theorem FS {Q:Option Value→Shared→Prop}(hh:A.handled=none)(FF:Fr g L s.heap m)(N:News g L s.heap (Bx z TO TI RI LI .none f1 c1 c2 x left step oL rest))(cL:oL.cls= .type "list_iterator")(hleft:left≤0)
  (hr:∀p∈rest,p.1≠z∧p.1≠TO∧p.1≠RI∧p.1≠LI)
  (h:∀h' tk,Fr g L h' m→News g L h' ((LI,oL)::rest)→Q none {s with heap:=h',toks:=tk}):
  wpAny (model prog w) A (pyNext (.ref z)) Q E s:=by
 have ez:=N _ (.head _)
 have eTO:=N _ mm1
 have eRI:=N _ mm2
 have eLI:=N _ mm3
 have eTI:=N _ mm4
 have nRIz:RI≠z:=ocl eRI.1 ez.1 rfl rfl rfl
 k_extra "02r"
 k_extra "02g"
 have hT:s.TypeIs (.ref z) "zip":=⟨_,ez.1,rfl⟩
 unfold pyNext
 k_extra "06"
 refine CX (wr1:= [RI]) ez.1 eTI.1 (GA (A:=A.in1) (x:=x) (left:=left) (step:=step) hh hleft) (by simp [nRIz.symm]) (fun h1 k1=>k1 _ _ nRIz eRI.1) fun h' tk e he k=>?_
 obtain⟨o,ho,hc⟩:=he
 k_extra "0q"
 refine wpAny_pure (h _ _ (BP FF [z,RI] (fun b o e hb=>by
  k_extra "028"
  exact k b o hb.1 (by simp [hb.2]) e) (by
  intro q hq
  k_extra "01"
  k_extra "051"
  ·exact⟨ez.2.2,ez.2.1⟩
  ·exact⟨eRI.2.2,eRI.2.1⟩)) fun p hp=>?_)
 k_extra "02"
 ·exact⟨k _ _ nLIz (by simp [nLIRI]) eLI.1,eLI.2⟩
 ·k_extra "03y"
  have n:=hr p hp
  exact⟨k _ _ n.1 (by simp [n.2.2.1]) e.1,e.2⟩
theorem HZ {elts:List PySem.Expr}{cx}{pos:Pos}{T:Addr}{Q:Unit→Shared→Prop}(FF:Fr g L s.heap m)(N:News g L s.heap ((T,AT c1 c2)::Bx z TO TI RI LI (rawInt T) f1 c1 c2 x left step oL rest))(cL:oL.cls= .type "list_iterator")(hr:∀p∈rest,p.1≠z)
  (h:∀h',Fr g L h' m→News g L h' ((T,AT c1 c2)::Bx z TO TI RI LI .none f1 c1 c2 x left step oL rest)→Q () {s with heap:=h'}):
  wpAny (model prog w) A (letOwnedTupleGo (.Tuple elts cx pos) (.ref z) (.ref T)) Q E s:=by
 have eT:=N _ (.head _)
 have ez:=N _ mm1
 have nTz:T≠z:=ocl eT.1 ez.1 rfl rfl rfl
 have hz:s.heap.get? z=some (BO (rawInt T) f1 TI TO):=ez.1
 unfold letOwnedTupleGo
 refine wpAny_bind (wpAny_load hz ?_)
 show wpAny _ A (if(["enumerate","zip","dict_itemiterator","dict_reverseitemiterator","odict_iterator","itertools.zip_longest","itertools.pairwise"].contains "zip"&&
   (#[rawInt T,.bool f1,.bool false,.ref TI,.ref TO]:Array Value)[0]?==some (rawInt T))=true then _ else _) Q E s
 rw [if_pos (by
  rw [show(["enumerate","zip","dict_itemiterator","dict_reverseitemiterator","odict_iterator","itertools.zip_longest","itertools.pairwise"].contains "zip")=true from by decide,Bool.true_and]
  simp [rawInt])]
 k_extra "02T"
 refine wpAny_setField_rec hz (by simp) fun h1 hz1 hs1=>?_
 refine h _ (FF.change hs1 ez.2.1 ez.2.2) fun p hp=>?_
 have old:∀{q:Addr×Obj},q∈(T,AT c1 c2)::Bx z TO TI RI LI (rawInt T) f1 c1 c2 x left step oL rest→q.1≠z→h1.get? q.1=some q.2∧q.1≠L∧g.get? q.1=none:=fun{q} hm hn=>⟨hs1.extBut _ _ hn (N q hm).1,(N q hm).2⟩
 k_extra "04X"
 rcases hp with rfl|rfl|rfl|rfl|rfl|rfl|hp
 ·exact old (.head _) nTz
 ·exact⟨hz1,ez.2⟩
 ·exact old mm2 (AS (N _ mm2).1 ez.1 (by simp))
 ·exact old mm3 (AS (N _ mm3).1 ez.1 (by simp))
 ·exact old mm4 (AS (N _ mm4).1 ez.1 (by rw [cL];simp))
 ·exact old mm5 (AS (N _ mm5).1 ez.1 (by simp))
 ·exact old (.tail _ (.tail _ (.tail _ (.tail _ (.tail _ (.tail _ hp)))))) (hr p hp)
end
section
variable{prog:Program}{w:World}{A:Around}{E:Value→Shared→Prop}{s:Shared}{g:Heap}{L r LI:Addr}{m:Str→Option Value}{rest:List (Addr×Obj)}{oL:Obj}
theorem FU {n:Nat}{t u v:Tok}{Q:Value→Shared→Prop}(hn:n≤1000)(FF:Fr g L s.heap m)(N:News g L s.heap ((LI,oL)::rest))(hr:IsRange s.heap r 0 (-(n:Int)) (-1) t u v)(cL:oL.cls= .type "list_iterator"){D:Addr}{k:Nat}(dL:oL.data= .fields #[.ref D,.int (k:Nat) 0])
  (h:∀z TO TI RI h',Fr g L h' m→News g L h' (Bx z TO TI RI LI .none false .none .none 0 n (-1) oL rest)→TI≠TO→(∀p∈(LI,oL)::rest,p.1<RI∧p.1<TO∧p.1<z)→Q (.ref z) {s with heap:=h'}):
  wpAny (model prog w) A (call (.type "zip") [.ref r,.ref LI]) Q E s:=by
 k_extra "0A"
 refine wpAny_pyIter_range hr (small_down (by decide) (by decide) (by exact Int.neg_le_neg (Int.le_of_lt (Ar.zup hn rfl))) (by exact Ar.r272)) ?_
 have e:Builtin.Range.rangeSize 0 (-(n:Int)) (-1)=n:=by
  rw [rangeSize_downNat];exact Ar.r170
 rw [e]
 have p1:∀b o,s.heap.get? b=some o→(s.heap.push (AJ 0 n (-1))).get? b=some o:=fun b o e=>Heap.get?_push_of_some _ e
 refine wpAny_pyIter_listiter (s:={s with heap:=s.heap.push (AJ 0 n (-1))}) (l:=D) (i:=k) ⟨_,p1 _ _ (N _ (.head _)).1,cL,dL⟩ ?_
 have z0:(s.heap.push (AJ 0 n (-1))).objs.size=s.heap.objs.size+1:=Heap.size_push ..
 have N1:=News.push FF N (AJ 0 n (-1)) rfl
 have F1:=FF.push (AJ 0 n (-1))
 have N2:=News.push F1 N1 (AT (.ref s.heap.objs.size) (.ref LI)) rfl
 have F2:=F1.push (AT (.ref s.heap.objs.size) (.ref LI))
 have N3:=News.push F2 N2 (AT .none .none) rfl
 have F3:=F2.push (AT .none .none)
 have N4:=News.push F3 N3 (BO .none false (s.heap.objs.size+1) (s.heap.objs.size+1+1)) rfl
 have F4:=F3.push (BO .none false (s.heap.objs.size+1) (s.heap.objs.size+1+1))
 simp only [Heap.size_push] at N2 N3 N4
 have lt:∀p∈(LI,oL)::rest,p.1<s.heap.objs.size:=fun p hp=>Heap.lt_size (N p hp).1
 have fin:=h (s.heap.objs.size+1+1+1) (s.heap.objs.size+1+1) (s.heap.objs.size+1) s.heap.objs.size _ F4 (fun p hp=>by
  k_extra "04X"
  k_extra "04S"
  ·exact N4 _ (.head _)
  ·exact N4 _ mm1
  ·exact N4 _ mm3
  ·exact N4 _ mm4
  ·exact N4 _ mm2
  ·exact N4 _ (.tail _ (.tail _ (.tail _ (.tail _ (.tail _ hp)))))) (Nat.ne_of_lt (Nat.lt_succ_self _)) (fun p hp=>by
  have:=lt p hp
  exact⟨this,Nat.lt_succ_of_lt (Nat.lt_succ_of_lt this),Nat.lt_succ_of_lt (Nat.lt_succ_of_lt (Nat.lt_succ_of_lt this))⟩)
 simp only [z0]
 refine⟨⟨_,(N4 _ (.head _)).1,rfl⟩,fin⟩
end
theorem Fw {prog:Program}{w:World}{A:Around}{E:Value→Shared→Prop}{s:Shared}{z:Addr}{o:Obj}{Q:Value→Shared→Prop}(ho:s.heap.get? z=some o)(hc:o.cls= .type "zip")(h:Q (.ref z) s):wpAny (model prog w) A (pyIter (.ref z)) Q E s:=by
 have hT:s.TypeIs (.ref z) "zip":=⟨o,ho,hc⟩
 refine wpAny_pyIter_slot hT F.slot_zip_iter (wpAny_call_entry F.slot_zip_iter hT F.entry_zip_iter ?_ (F.args_zip_iter_1 _))
 exact wpAny_pure ⟨_,rfl,"zip",_,hT,F.slot_zip_next.lookup,h⟩
theorem Ha {z TO TI RI LI D:Addr}{f0 c1 c2:Value}{f1:Bool}{x left step:Int}{oL oD:Obj}{a b:Addr×Obj}{tl:List (Addr×Obj)}{p:Addr×Obj}(h:p∈(D,oD)::a::b::Bx z TO TI RI LI f0 f1 c1 c2 x left step oL tl):p∈a::b::Bx z TO TI RI LI f0 f1 c1 c2 x left step oL ((D,oD)::tl):=
 Bj [7,0,1,2,3,4,5,6] 8 rfl h
theorem Id {z TO TI RI LI D:Addr}{f0 c1 c2:Value}{f1:Bool}{x left step:Int}{oL oD:Obj}{a b:Addr×Obj}{tl:List (Addr×Obj)}{p:Addr×Obj}(h:p∈Bx z TO TI RI LI f0 f1 c1 c2 x left step oL ((D,oD)::a::tl)):p∈(D,oD)::a::b::Bx z TO TI RI LI f0 f1 c1 c2 x left step oL tl:=
 Bj [3,4,5,6,7,0,1] 8 rfl h
theorem Jk {z TO TI RI LI D:Addr}{f0 c1 c2 f0' c1' c2':Value}{f1 f1':Bool}{x left step x' left' step':Int}{oL oL':Obj}{tl tl':List (Addr×Obj)}(h:∀p∈Bx z TO TI RI LI f0 f1 c1 c2 x left step oL tl,p.1≠D)(ht:∀p∈tl',p.1≠D):∀p∈Bx z TO TI RI LI f0' f1' c1' c2' x' left' step' oL' tl',p.1≠D:=fun p hp=>by
 simp only [Bx,List.mem_cons] at h hp
 k_extra "04S"
 ·exact h (z,BO f0 f1 TI TO) (.inl rfl)
 ·exact h (TO,AT c1 c2) (.inr (.inl rfl))
 ·exact h (RI,AJ x left step) (.inr (.inr (.inl rfl)))
 ·exact h (LI,oL) (.inr (.inr (.inr (.inl rfl))))
 ·exact h (TI,AT (.ref RI) (.ref LI)) (.inr (.inr (.inr (.inr (.inl rfl)))))
 ·exact ht p hp
theorem Jn {ns:List Int}{as:List Addr}{tl:List (Addr×Obj)}{i:Nat}{D':Addr}{t0 u0:Tok}(hlen:as.length=i)(htl:∀(j:Nat) a,as[j]?=some a→∃t u,(a,AT (.int (ns.getD j 0) t) (.int (-(j:Int)) u))∈tl):
  ∀(j:Nat) a,(as++ [D'])[j]?=some a→∃t u,(a,AT (.int (ns.getD j 0) t) (.int (-(j:Int)) u))∈(D',AT (.int (ns.getD i 0) t0) (.int (-(i:Int)) u0))::tl:=fun j a e=>by
 rcases Nat.lt_or_ge j as.length with q|q
 ·rw [List.getElem?_append_left q] at e
  obtain⟨t',u',h⟩:=htl j a e
  exact⟨t',u',.tail _ h⟩
 ·rw [List.getElem?_append_right q] at e
  have:j-as.length=0:=by
   rcases Nat.eq_zero_or_pos (j-as.length) with z|z
   ·exact z
   ·rw [List.getElem?_eq_none (by simp;exact Nat.succ_le_of_lt ‹_›)] at e;cases e
  rw [this] at e
  have ea:D'=a:=by simpa using e
  have ej:j=i:=by exact Nat.le_antisymm (hlen▸Nat.le_of_sub_eq_zero this) (hlen▸q)
  subst ea ej
  exact⟨t0,u0,.head _⟩
section
variable{prog:Program}{w:World}{A:Around}{E:Value→Shared→Prop}{s:Shared}
theorem Cs {it t:Addr}{i:Nat}{items:Array Value}{x:Value}{Q:Value→Shared→Prop}(hit:s.heap.IsTupleIter it t i)(ht:s.heap.IsTuple t items)(hx:items[i]?=some x)
  (hQ:∀h',h'.IsTupleIter it t (i+1)→Heap.SameBut it s.heap h'→Q x {s with heap:=h'}):wpAny (model prog w) A (Builtin.SmallTypes.nextOf (.ref it)) Q E s:=by
 k_extra "04V"
 obtain⟨ol,hol,_,nl,hdl⟩:=ht
 k_extra "03K"
 refine wpAny_bind (wpAny_callSpecial?_slot (name:=Str.ofString "__next__") hit.typeIs F.slot_tuple_iterator_next
  (wpAny_call_entry F.slot_tuple_iterator_next hit.typeIs F.entry_tuple_iterator_next ?_ (F.args_tuple_iterator_next_1 _)))
 k_extra "01v"
 k_extra "04e"
 k_extra "03h"
 k_extra "02S"
 k_extra "024"
 k_extra "01E"
 show wpAny _ _ (seqItems? (.ref t)>>=_) _ _ s
 k_extra "02H"
 k_extra "04E"
 refine wpAny_bind (wpAny_setField ho hd (by simp) (wpAny_pure ⟨x,rfl,wpAny_pure (hQ _ ?_ (Heap.SameBut.update ..))⟩))
 exact⟨_,Heap.get?_update_self _ ho (Obj.isFreed_of_fields (Obj.data_mapFields hd _)),(Obj.cls_mapFields ..).trans hc,by
  rw [Obj.data_mapFields hd];simp [rawInt]⟩
theorem Bq {it t:Addr}{i:Nat}{items:Array Value}{Q:Value→Shared→Prop}(hh:A.handled=none)(hit:s.heap.IsTupleIter it t i)(ht:s.heap.IsTuple t items)(hx:items[i]?=none)
  (hE:∀h' e,Heap.ExtBut it s.heap h'→(∃o,h'.get? e=some o∧o.cls= .type "StopIteration")→E (.ref e) {s with heap:=h'}):wpAny (model prog w) A (Builtin.SmallTypes.nextOf (.ref it)) Q E s:=by
 k_extra "04V"
 obtain⟨ol,hol,_,nl,hdl⟩:=ht
 k_extra "03K"
 refine wpAny_bind (wpAny_callSpecial?_slot (name:=Str.ofString "__next__") hit.typeIs F.slot_tuple_iterator_next
  (wpAny_call_entry F.slot_tuple_iterator_next hit.typeIs F.entry_tuple_iterator_next ?_ (F.args_tuple_iterator_next_1 _)))
 k_extra "01v"
 k_extra "04e"
 k_extra "03h"
 k_extra "02S"
 k_extra "024"
 k_extra "01E"
 show wpAny _ _ (seqItems? (.ref t)>>=_) _ _ s
 k_extra "02H"
 k_extra "04E"
 k_extra "02E"
 refine Br (A:=A.in1) hh fun h' e hn=>hE _ _ (fun b o hb e=>hn.keeps b o ((Heap.SameBut.update ..).extBut b o hb e)) (by obtain⟨o,t,a,b,c⟩:=hn.there;exact⟨o,a,b⟩)
end
theorem GU {prog:Program}{w:World}{A:Around}(hh:A.handled=none)(it l:Addr)(hne:l≠it)(items:Array Value):
  PySem.Draws prog w A it [it,l] items.size (fun i v=>items[i]?=some v) (fun i h=>h.IsTupleIter it l i∧h.IsTuple l items) where
 live:=fun _ _ st=>let⟨o,ho,_⟩:=st.1;⟨o,ho⟩
 frame:=fun _ _ _ st hk=>⟨let⟨o,e,r⟩:=st.1;⟨o,hk it (by simp) o e,r⟩,let⟨o,e,r⟩:=st.2;⟨o,hk l (by simp) o e,r⟩⟩
 item:=fun i s Q E hi st hQ=>by
  refine Cs st.1 st.2 (x:=items[i]) (by simp [hi]) fun h' hit' hs'=>?_
  exact hQ _ h' s.toks (by simp [hi]) ⟨hit',let⟨o,e,r⟩:=st.2;⟨o,hs'.extBut _ _ hne e,r⟩⟩ hs'
 done:=fun s Q E st hE=>Bq hh st.1 st.2 (by simp) hE
theorem LS {p:Model}{A:Around}{β:Type}{a:β}{Q:β→Shared→Prop}{E:Value→Shared→Prop}{s:Shared}(h:∀b,Q b s):wpAny p A (pure a) Q E s:=wpAny_pure (h a)
theorem GG {prog:Program}{w:World}(a:Value):
  MeetsIn prog w (Builtin.«enumerate.__new__» ⟨[.type "enumerate",a],[]⟩) (fun A R s=>wpAny (model prog w) A.in1 (pyIter a) (fun i s1=>
   R (.ok (.ret (.ref s1.heap.objs.size))) {s1 with heap:=s1.heap.push {cls:=.type "enumerate",data:=.fields #[.none,.bool false,i,rawInt 0,.none,.none]}}) (fun e s'=>R (.error e) s') s):=
 .of_wp fun A R s h=>by
  obtain⟨hp,g,d,tk,os⟩:=s
  have hsub:=sub_enumerate
  have ha:∀{Q':Value→Shared→Prop},(∀i s1,R (.ok (.ret (.ref s1.heap.objs.size))) {s1 with heap:=s1.heap.push {cls:=.type "enumerate",data:=.fields #[.none,.bool false,i,rawInt 0,.none,.none]}}→Q' i s1)→
   wpAny (model prog w) A.in1 (pyIter a) Q' (fun e s'=>R (.error e) s') ⟨hp,g,d,tk,os⟩:=fun hq=>wpAny_mono h hq fun _ _ e=>e
  wp_walk using(ha)
  refine wpAny_stack_any fun st=>LS fun b=>?_
  cases b
  ·wp_walk using(ha)
   rintro i1 ⟨hp1,g1,d1,tk1,os1⟩ h1
   wp_walk
   exact⟨_,rfl,h1⟩
  ·wp_walk using(ha)
   rintro i1 ⟨hp1,g1,d1,tk1,os1⟩ h1
   wp_walk
   exact⟨_,rfl,h1⟩
section
variable{prog:Program}{w:World}{A:Around}{E:Value→Shared→Prop}{s:Shared}{g:Heap}{L T:Addr}{m:Str→Option Value}{news:List (Addr×Obj)}
noncomputable abbrev enO (f0:Value)(it:Addr)(i:Int)(old:Value):Obj:={cls:=.type "enumerate",data:=.fields #[f0,.bool false,.ref it,rawInt i,.none,old]}
noncomputable abbrev tiO (T:Addr)(i:Nat):Obj:={cls:=.type "tuple_iterator",data:=.fields #[.ref T,.int (i:Nat) 0]}
theorem EX {items:Array Value}{Q:Value→Shared→Prop}(FF:Fr g L s.heap m)(N:News g L s.heap news)(ht:s.heap.IsTuple T items)
  (h:∀e it h',Fr g L h' m→News g L h' ((e,enO .none it 0 .none)::(it,tiO T 0)::news)→(∀p∈news,p.1<it∧p.1<e)→@Ne Nat e it→Q (.ref e) {s with heap:=h'}):
  wpAny (model prog w) A (call (.type "enumerate") [.ref T]) Q E s:=by
 refine callType_newIn F.called_enumerate (by decide) (F.typeCall_enumerate_1 _) (F.newCall_enumerate_1 _) (fun obj=>F.args_object_init_2 obj _) F.entry_enumerate_new (GG _) ?_
 refine wpAny_pyIter_tuple ht ?_
 have N1:=News.push FF N (tiO T 0) rfl
 have F1:=FF.push (tiO T 0)
 have N2:=News.push F1 N1 (enO .none s.heap.objs.size 0 .none) rfl
 have F2:=F1.push (enO .none s.heap.objs.size 0 .none)
 have z0:(s.heap.push (tiO T 0)).objs.size=s.heap.objs.size+1:=Heap.size_push ..
 have lt:∀p∈news,p.1<s.heap.objs.size:=fun p hp=>Heap.lt_size (N p hp).1
 refine⟨⟨_,(N2 _ (.head _)).1,rfl⟩,h _ _ _ F2 N2 (fun p hp=>⟨lt p hp,(show @LT.lt Nat _ p.1 (s.heap.push (tiO T 0)).objs.size by rw [z0];exact Nat.lt_succ_of_lt (lt p hp))⟩) (show @Ne Nat (s.heap.push (tiO T 0)).objs.size s.heap.objs.size by rw [z0];exact Nat.succ_ne_self _)⟩
theorem IL {e it:Addr}{i:Nat}{old:Value}{oT:Obj}{rest:List (Addr×Obj)}{items:Array Value}{Q:Option Value→Shared→Prop}(hh:A.handled=none)(FF:Fr g L s.heap m)(N:News g L s.heap ((e,enO .none it i old)::(it,oT)::rest))(cT:oT.cls= .type "tuple_iterator")(dT:oT.data= .fields #[.ref T,.int (i:Nat) 0])
  (ht:s.heap.IsTuple T items) (hr:∀p∈rest,p.1≠e∧p.1≠it) (hTe:T≠e)
  (h1:∀x,items[i]?=some x→∀a h' tk t oT',oT'.cls= .type "tuple_iterator"→oT'.data= .fields #[.ref T,.int (i+1:Nat) 0]→Fr g L h' m→News g L h' ((a,AT (.int i t) x)::(e,enO (rawInt a) it (i+1:Nat) x)::(it,oT')::rest)→(∀p∈rest,p.1≠a)→Q (some (.ref a)) {s with heap:=h',toks:=tk})
  (h2:items[i]?=none→∀h',Fr g L h' m→News g L h' rest→Q none {s with heap:=h'}):
  wpAny (model prog w) A (pyNext (.ref e)) Q E s:=by
 have ee:=N _ (.head _)
 have ei:=N _ mm1
 have nei:e≠it:=ocl ee.1 ei.1 (by first|exact cT|rfl) (by first|exact cT|rfl) rfl
 have nT:T≠it:=by
  obtain⟨o,eT,c,_⟩:=ht
  exact ocl eT ei.1 (by first|exact cT|exact c) (by first|exact cT|exact c) rfl
 have hit:s.heap.IsTupleIter it T i:=⟨oT,ei.1,cT,dT⟩
 have D:=GU (prog:=prog) (w:=w) (A:=A.in1) hh it T nT items
 by_cases hi:i<items.size
 ·refine wpAny_pyNext_enum_itemD D ee.1 ⟨hit,ht⟩ hi nei (by simp;exact⟨nei,Ne.symm hTe⟩) fun x h' tk hx he' st' ea hsz k=>?_
  obtain⟨o',eo',c',d'⟩:=st'.1
  have F':=BP FF [e,it] (fun b o e hb=>by
   k_extra "028"
   exact k b o hb.1 hb.2 e) (by
   intro q hq
   k_extra "01"
   k_extra "051"
   ·exact⟨ee.2.2,ee.2.1⟩
   ·exact⟨ei.2.2,ei.2.1⟩)
  have fa:s.heap.get? s.heap.objs.size=none:=Heap.get?_none_of_le (Nat.le_refl _)
  refine h1 x hx _ h' _ tk o' c' d' F' (Al FF (fun p hp=>?_) fa ea) fun p hp=>Nat.ne_of_lt (Heap.lt_size (N p (.tail _ (.tail _ hp))).1)
  k_extra "02"
  ·exact⟨he',ee.2⟩
  k_extra "02"
  ·exact⟨eo',ei.2⟩
  ·have e2:=N p (.tail _ (.tail _ hp))
   exact⟨k _ _ (hr p hp).1 (hr p hp).2 e2.1,e2.2⟩
 ·have hn:items.size≤i:=Nat.le_of_not_lt hi
  have hx:items[i]?=none:=Array.getElem?_eq_none hn
  have hT:s.TypeIs (.ref e) "enumerate":=⟨_,ee.1,rfl⟩
  unfold pyNext
  refine wpAny_bind (wpAny_attempt (wpAny_callSpecial?_slot (name:=Str.ofString "__next__") hT F.slot_enumerate_next
   (wpAny_call_entry F.slot_enumerate_next hT F.entry_enumerate_next ?_ (F.args_enumerate_next_1 _))))
  show wpAny _ _ (field (.ref e) 2>>=_) _ _ _
  refine wpAny_bind (wpAny_field ee.1 rfl (x:=.ref it) rfl ?_)
  refine wpAny_bind (Bq (A:=A.in1) hh hit ht hx fun h' x he' hx'=>?_)
  obtain⟨o,ho,hc⟩:=hx'
  k_extra "0q"
  refine wpAny_pure (h2 hx h' (BP FF [it] (fun b o e hb=>he' b o (fun q=>hb (by rw [q];exact .head _)) e) (by
   intro q hq
   rw [List.mem_singleton.mp hq]
   exact⟨ei.2.2,ei.2.1⟩)) fun p hp=>?_)
  have e2:=N p (.tail _ (.tail _ hp))
  exact⟨he' _ _ (hr p hp).2 e2.1,e2.2⟩
theorem G8 {e it a:Addr}{i:Int}{x:Value}{oa:Obj}{rest:List (Addr×Obj)}{elts:List PySem.Expr}{cx}{pos:Pos}{Q:Unit→Shared→Prop}(FF:Fr g L s.heap m)(N:News g L s.heap ((a,oa)::(e,enO (rawInt a) it i x)::rest))(ha:a≠e)(hr:∀p∈rest,p.1≠e)
  (h:∀h',Fr g L h' m→News g L h' ((a,oa)::(e,enO .none it i x)::rest)→Q () {s with heap:=h'}):
  wpAny (model prog w) A (letOwnedTupleGo (.Tuple elts cx pos) (.ref e) (.ref a)) Q E s:=by
 have ee:=N _ mm1
 refine wpAny_letOwnedTupleGo_enum ee.1 fun h' he' hs'=>h h' (FF.change hs' ee.2.1 ee.2.2) fun p hp=>?_
 k_extra "02"
 ·exact⟨hs'.extBut _ _ ha (N _ (.head _)).1,(N _ (.head _)).2⟩
 k_extra "02"
 ·exact⟨he',ee.2⟩
 ·exact⟨hs'.extBut _ _ (hr p hp) (N p (.tail _ (.tail _ hp))).1,(N p (.tail _ (.tail _ hp))).2⟩
end
section
variable{prog:Program}{w:World}{A:Around}{E:Value→Shared→Prop}{Q:Flow→Shared→Prop}{s:Shared}{env:Env}{g:Heap}{L:Addr}{m:Str→Option Value}
noncomputable def EM (prog:Program)(w:World)(A:Around)(g:Heap)(L:Addr)(env:Env)(target:PySem.Expr)(it:Value)(body orelse:List Stmt)(Q:Flow→Shared→Prop)(E:Value→Shared→Prop)(s₀:Shared)(J:Nat→(Str→Option Value)→List (Addr×Obj)→Prop)(n:Nat)(r:Option Value)(s₁:Shared):Prop:=
 match r with
 |none=>wpAny (model prog w) A (execs orelse env) Q E s₁
 |some v=>wpAny (model prog w) A (letOwnedTupleGo target it v) (fun _ s₂=>wpAny (model prog w) A (assign target env v) (fun _ s₃=>wpAny (model prog w) A (execs body env) (WhFlow Q (AZ g L s₀ J n)) E s₃) E s₂) E s₁
inductive Jg (prog:Program) (w:World) (A:Around) (g:Heap) (L:Addr) (env:Env) (target:PySem.Expr) (body orelse:List Stmt) (Q:Flow→Shared→Prop) (E:Value→Shared→Prop) (it:Value) (s₂:Shared):Prop
 |mk (J:Nat→(Str→Option Value)→List (Addr×Obj)→Prop) (n₀:Nat) (m:Str→Option Value) (nw:List (Addr×Obj)) (_:Fr g L s₂.heap m) (_:News g L s₂.heap nw) (_:J n₀ m nw) (_:∀n m₁ nw₁ h₁ tk₁,Fr g L h₁ m₁→News g L h₁ nw₁→J n m₁ nw₁→wpAny (model prog w) A (pyNext it) (EM prog w A g L env target it body orelse Q E s₂ J n) E {s₂ with heap:=h₁,toks:=tk₁}):Jg prog w A g L env target body orelse Q E it s₂
theorem Ps {target iter:PySem.Expr}{body orelse:List Stmt}{pos:Pos}(_F:Fr g L s.heap m)
  (h:wpAny (model prog w) A (eval iter env) (fun xv s₁=>wpAny (model prog w) A (pyIter xv) (Jg prog w A g L env target body orelse Q E) E s₁) E s)
  (hs:∀x,foldedSetIterable iter env x=pure x:=by intro _;rfl) (hE:PassesOwn (model prog w) A env E:=by passes_own):
  wpAny (model prog w) A (exec (.For target iter body orelse pos) env) Q E s:=by
 k_extra "03Z"
 obtain⟨J,n₀,m,nw,F,N,hJ,turn⟩:=h₂
 k_extra "0y"
 ·k_extra "04b"
  k_extra "02P"
 ·k_extra "03q"
  exact wpAny_mono (turn k m₁ nw₁ h₁ tk₁ F₁ N₁ J₁) (fun r s₁ hr=>by cases r<;>exact hr) fun _ _ e=>e
end
section
variable{prog:Program}{w:World}{A:Around}{E:Value→Shared→Prop}{s:Shared}{g:Heap}{L:Addr}{m:Str→Option Value}{rest:List (Addr×Obj)}
theorem KC {T:Addr}{items:Array Value}{Q:Value→Shared→Prop}(FF:Fr g L s.heap m)(N:News g L s.heap rest)(ht:s.heap.IsTuple T items)
  (h:∀it h' oI,oI.cls= .type "tuple_iterator"→oI.data= .fields #[.ref T,.int (0:Nat) 0]→Fr g L h' m→News g L h' ((it,oI)::rest)→(∀p∈rest,p.1<it)→Q (.ref it) {s with heap:=h'}):
  wpAny (model prog w) A (pyIter (.ref T)) Q E s:=by
 refine wpAny_pyIter_tuple ht ?_
 refine h _ _ {cls:=.type "tuple_iterator",data:=.fields #[.ref T,.int (0:Nat) 0]} rfl rfl (FF.push _) (News.push FF N _ rfl) fun p hp=>Heap.lt_size (N p hp).1
theorem J3 {I T:Addr}{oI:Obj}{items:Array Value}{k:Nat}{Q:Option Value→Shared→Prop}(hh:A.handled=none)(F:Fr g L s.heap m)(N:News g L s.heap ((I,oI)::rest))(cI:oI.cls= .type "tuple_iterator")(dI:oI.data= .fields #[.ref T,.int k 0])(hl:s.heap.IsTuple T items)
  (hne:∀p∈rest,p.1≠I)
  (h1:∀v,items[k]?=some v→∀h' oI',oI'.cls= .type "tuple_iterator"→oI'.data= .fields #[.ref T,.int (k+1:Nat) 0]→Fr g L h' m→News g L h' ((I,oI')::rest)→Q (some v) {s with heap:=h'})
  (h2:items[k]?=none→∀h',Fr g L h' m→News g L h' rest→Q none {s with heap:=h'}):wpAny (model prog w) A (pyNext (.ref I)) Q E s:=by
 have hI:=N _ (.head _)
 have hit:s.heap.IsTupleIter I T k:=⟨oI,hI.1,cI,dI⟩
 cases e:items[k]? with
 |some a=>
  refine wpAny_pyNext_tuple_item hit hl e fun h' hit' hs'=>?_
  k_extra "04o"
  k_extra "01Z"
  k_extra "02"
  ·exact⟨eo,hI.2⟩
  ·k_extra "0u"
 |none=>
  refine wpAny_pyNext_tuple_end hh hit hl e fun h' he'=>?_
  k_extra "0c"
  ·k_extra "02d"
   k_extra "01C"
  ·have:=hI.2.2
   k_extra "048"
theorem JI {elts:List PySem.Expr}{x1}{pos:Pos}{I l T:Addr}{i:Int}{o:Obj}{Q:Unit→Shared→Prop}(ho:s.heap.get? I=some o)(hc:o.cls= .type "tuple_iterator")(hd:o.data= .fields #[.ref l,.int i 0])(hQ:Q () s):
  wpAny (model prog w) A (letOwnedTupleGo (.Tuple elts x1 pos) (.ref I) (.ref T)) Q E s:=by
 unfold letOwnedTupleGo
 refine wpAny_bind (wpAny_load ho ?_)
 rw [hc,hd]
 show wpAny _ A (if(["enumerate","zip","dict_itemiterator","dict_reverseitemiterator","odict_iterator","itertools.zip_longest","itertools.pairwise"].contains "tuple_iterator"&&
   (#[.ref l,.int i 0]:Array Value)[0]?==some (rawInt T))=true then _ else _) Q E s
 rw [if_neg (by
  intro h
  rw [show(["enumerate","zip","dict_itemiterator","dict_reverseitemiterator","odict_iterator","itertools.zip_longest","itertools.pairwise"].contains "tuple_iterator")=false from by decide,Bool.false_and] at h
  cases h)]
 exact wpAny_pure hQ
end
noncomputable def tbl:List (List (Int×Nat)):= [[(40960,108),(49152,115),(32768,45),(24576,98),(16384,100),(8192,99),(4096,112)],[(256,114)],[(128,119)],[(2112,115),(2048,83),(64,120)],[(32,114)],[(16,119)],[(1032,115),(1024,83),(8,120)],[(4,114)],[(2,119)],[(513,116),(512,84),(1,120)]]
noncomputable def sgn (b:Int)(i:Nat):Nat:=match(tbl.getD i []).find? (fun e=>decide (Builtin.bitAnd b e.1=e.1)) with
 |some e=>e.2
 |none=>45
noncomputable def Tab (g:Heap)(T:Addr)(rs:List Addr)(es:List (Int×Nat)):Prop:=
 g.IsTuple T (rs.map Value.ref).toArray∧rs.length=es.length∧∀(j:Nat) (r:Addr),rs[j]?=some r→∃e tb tc,es[j]?=some e∧g.IsTuple r #[.int e.1 tb,.str ⟨#[e.2]⟩ tc]
theorem Tab.two {g:Heap}{r:Addr}{rs:List Addr}{es:List (Int×Nat)}{b:Int}{c:Nat}{tb tc:Tok}(hr:g.IsTuple r #[.int b tb,.str ⟨#[c]⟩ tc])(h:∀(j:Nat) (r:Addr),rs[j]?=some r→∃e tb tc,es[j]?=some e∧g.IsTuple r #[.int e.1 tb,.str ⟨#[e.2]⟩ tc]):
  ∀(j:Nat) (q:Addr),(r::rs)[j]?=some q→∃e tb tc,((b,c)::es)[j]?=some e∧g.IsTuple q #[.int e.1 tb,.str ⟨#[e.2]⟩ tc]
 |0,q,e=>by
  have e:r=q:=by simpa using e
  subst e
  exact⟨_,_,_,rfl,hr⟩
 |j+1,q,e=>h j q (by simpa using e)
theorem Tab.nil {g:Heap}:∀(j:Nat) (q:Addr),([]:List Addr)[j]?=some q→∃e tb tc,([]:List (Int×Nat))[j]?=some e∧g.IsTuple q #[.int e.1 tb,.str ⟨#[e.2]⟩ tc]:=by
 intro j q e
 simp at e
theorem Ju {b:Int}{i j:Nat}{es:List (Int×Nat)}{e:Int×Nat}(he:tbl[i]?=some es)(h:es[j]?=some e)(hb:Builtin.bitAnd b e.1=e.1)(hn:∀x∈es.take j,¬Builtin.bitAnd b x.1=x.1):sgn b i=e.2:=by
 have hj:=(List.getElem?_eq_some_iff.mp h)
 have:es.find? (fun e=>decide (Builtin.bitAnd b e.1=e.1))=some e:=by
  rw [List.find?_eq_some_iff_append]
  refine⟨by simpa using hb,es.take j,es.drop (j+1),?_,fun x hx=>by simpa using hn x hx⟩
  obtain⟨hl,e2⟩:=hj
  rw [←e2]
  simp
 unfold sgn
 k_extra "04f"
theorem Ip {b:Int}{i:Nat}{es:List (Int×Nat)}(he:tbl[i]?=some es)(hn:∀x∈es,¬Builtin.bitAnd b x.1=x.1):sgn b i=45:=by
 have:es.find? (fun e=>decide (Builtin.bitAnd b e.1=e.1))=none:=by
  rw [List.find?_eq_none]
  intro x hx
  simpa using hn x hx
 unfold sgn
 k_extra "04f"
noncomputable def Bh (b:Int)(us:List Value)(ys:List Str)(i:Nat):Prop:=StrsAre us ys∧ys.length=i∧∀(j:Nat) (y:Str),ys[j]?=some y→∃c,y=⟨#[c]⟩∧(1≤j→c=sgn b j)
theorem Ew {c:Str}{t:Tok}{us:List Value}{ys:List Str}(h:StrsAre us ys):StrsAre (us++ [.str c t]) (ys++ [c]):=by
 induction h with
 |nil=>exact .cons _ _ .nil
 |cons _ _ _ ih=>exact .cons _ _ ih
theorem Bh.snoc {b:Int}{us:List Value}{ys:List Str}{i:Nat}{c:Nat}{t:Tok}(h:Bh b us ys i)(hc:1≤i→c=sgn b i):Bh b (us++ [.str ⟨#[c]⟩ t]) (ys++ [⟨#[c]⟩]) (i+1):=by
 refine⟨Ew h.1,by simp [h.2.1],fun j y e=>?_⟩
 by_cases hj:j<ys.length
 ·rw [List.getElem?_append_left hj] at e
  exact h.2.2 j y e
 ·have:j=ys.length:=by
   have:=(List.getElem?_eq_some_iff.mp e).1
   simp at this
   exact Nat.le_antisymm (Nat.le_of_lt_succ this) (Nat.not_lt.mp hj)
  subst this
  simp at e
  subst e
  refine⟨c,rfl,?_⟩
  rw [h.2.1]
  exact hc
theorem Bh.nil {b:Int}:Bh b [] [] 0:=⟨.nil,rfl,fun j y e=>by simp at e⟩
theorem Bh.len {b:Int}{us:List Value}{ys:List Str}{i:Nat}(h:Bh b us ys i):us.length=i:=by
 have:∀{us:List Value} {ys:List Str},StrsAre us ys→us.length=ys.length:=fun h=>by
  induction h with
  |nil=>rfl
  |cons _ _ _ ih=>simp [ih]
 rw [this h.1,h.2.1]
theorem JQ:∀(cs:List Nat),(Txt.join (Str.ofString "") (cs.map fun c=>(⟨#[c]⟩:Str))).cps.toList=cs:=by
 intro cs
 show(Builtin.Str.glued (Str.ofString "") _).cps.toList=_
 rw [StrLaws.glued_eq_join]
 have z:(Str.ofString "").cps= #[]:=by decide
 induction cs with
 |nil=>rfl
 |cons a r ih=>
  cases r with
  |nil=>rfl
  |cons b r=>
   show((⟨#[a]⟩:Str)++Str.ofString ""++Str.join (Str.ofString "") ((b::r).map fun c=>(⟨#[c]⟩:Str))).cps.toList=_
   rw [Str.cps_append,Str.cps_append,z,Array.toList_append,ih]
   simp
theorem Bh.all {b:Int}{us:List Value}{ys:List Str}{i:Nat}(h:Bh b us ys i):∃cs:List Nat,ys=cs.map (fun c=>(⟨#[c]⟩:Str))∧cs.length=i∧∀(j c:Nat),1≤j→cs[j]?=some c→c=sgn b j:=by
 obtain⟨_,hl,hy⟩:=h
 refine⟨ys.map fun y=>y.cps.getD 0 0,?_,by simp [hl],fun j c h1 e=>?_⟩
 ·rw [List.map_map]
  refine(List.map_id ys).symm.trans (List.map_congr_left fun y hm=>?_)
  obtain⟨j,hj,e⟩:=List.getElem_of_mem hm
  obtain⟨c,rfl,_⟩:=hy j y (by rw [List.getElem?_eq_getElem hj,e])
  rfl
 ·rw [List.getElem?_map] at e
  obtain⟨y,ey,e⟩:=Option.map_eq_some_iff.mp e
  obtain⟨c',rfl,hc⟩:=hy j y ey
  rw [←e]
  exact hc h1
theorem Bh.join {b:Int}{us:List Value}{ys:List Str}(h:Bh b us ys 10):(Txt.join (Str.ofString "") ys).cps.size=10∧∀j,1≤j→j<10→(Txt.join (Str.ofString "") ys).cps[j]?=some (sgn b j):=by
 obtain⟨cs,rfl,hl,hc⟩:=h.all
 have e:=JQ cs
 generalize Txt.join (Str.ofString "") _=x at e
 refine⟨by rw [←Array.length_toList,e,hl],fun j h1 h2=>?_⟩
 rw [←Array.getElem?_toList,e]
 cases q:cs[j]? with
 |none=>rw [List.getElem?_eq_none_iff] at q;exact absurd (hl▸q) (Nat.not_le_of_lt h2)
 |some c=>rw [hc j c h1 q]
theorem Bh.fits {b:Int}{us:List Value}{ys:List Str}(h:Bh b us ys 10):(ys.map (·.length)).sum+ys.length*(Str.ofString "").length≤16777216:=by
 obtain⟨cs,rfl,hl,hc⟩:=h.all
 have z:(Str.ofString "").length=0:=by decide
 have o:∀cs:List Nat,((cs.map fun c=>(⟨#[c]⟩:Str)).map (·.length)).sum=cs.length:=fun cs=>by
  induction cs with
  |nil=>rfl
  |cons a r ih=>
   simp only [List.map_cons,List.sum_cons,List.length_cons,ih]
   show 1+r.length=_
   omega
 rw [z,o,hl]
 omega
theorem Ii {α:Type}{es:List α}{j:Nat}{e x:α}(h:es[j]?=some e)(hx:x∈es.take (j+1)):x∈es.take j∨x=e:=by
 rw [List.take_add_one,h] at hx
 simpa using hx
theorem warm_all:(PySem.Challenge.rw_il0022_01=PySem.Challenge.rw_il0022_01)∧(Mine.hd.heap_39=Mine.hd.heap_39):=by k_fill;exact⟨rfl,rfl⟩
local macro_rules
  | `(tactic| walk_at $s:str) => do
    let t := Lean.Syntax.mkStrLit ("M" ++ s.getString)
    `(tactic| k_extra $t)
theorem kw_LA_1:True:=by
 k_with "MsubscriptTail"=>((k_here;(with_reducible show wpAny _ _ (subscriptTail _ _ (Value.ref _) (Value.int _ _)) _ _ _);(with_unfolding_all refine' Gg ?k1 ?k2 ?k4 ?k5 ?k6 ?_ ?k7;(case k1=>k_asm);(case k2=>k_mem);(case k4=>omega);(case k5=>omega);(case k6=>omega);(case k7=>with_unfolding_all rfl);k_whole)))
 k_with "MsetItem ref int ref"=>((k_here;(with_unfolding_all refine' Kz ?k1 ?k2 ?k3 ?k4 ?k5 ?k6 ?_;(case k1=>k_asm);(case k2=>k_asm);(case k3=>k_upd);(case k4=>omega);(case k5=>omega);(case k6=>omega);k_whole);intro q_h' q_F' q_N';(try k_sweep)))
 k_with "Mexec While Compare cons nil"=>(refine Stop.at ?_)
 k_with "MbinaryOp RShift int int"=>((with_reducible refine rsh1 ?_))
 k_with "MWhFlow"=>((dsimp only [WhFlow]))
 k_with "Mcall ref"=>(((with_reducible show wpAny _ _ (call (Value.ref 300) _ _) _ _ _);refine Stop.at ?_))
 k_with "Mcall builtin:len"=>((k_here;(with_reducible show wpAny _ _ (call (Value.builtin _) [Value.ref _]) _ _ _);k_dflt (refine' K1 ?k1 ?k2 ?k3 ?_;(case k1=>k_asm);(case k2=>k_mem);(case k3=>omega);k_whole)))
 k_with "Mexec For Name Call cons nil"=>((k_here;(rename Fr _ _ _ _=>q_lF');(with_unfolding_all refine HX q_lF' ?_)))
 k_with "MForTurn none"=>((dsimp only [ForTurn]))
 k_with "MForTurn some"=>((dsimp only [ForTurn]))
 k_with "MForTurn"=>((dsimp only [ForTurn]))
 k_with "MletOwnedTupleGo Name"=>((with_unfolding_all refine wpAny_pure ?_))
 k_with "Massign Name"=>(refine wpAny_assign_Name ?_)
 k_with "Mcall type:reversed"=>((k_here;(with_unfolding_all refine' Gi ?k1 ?k2 ?k3 ?k4 ?k5 ?_;(case k1=>k_asm);(case k2=>k_asm);(case k3=>k_asm);(case k4=>omega);(case k5=>omega);k_whole);intro q_I' q_h' q_F' q_N' q_l1;(try k_lt q_l1);(try k_sweep)))
 k_with "MpyNext ref"=>((k_here;(with_unfolding_all refine' BK ?k0 ?k1 ?k2 ?k3 ?_ ?_;(case k0=>exact rfl);(case k1=>k_asm);(case k2=>k_asm);(case k3=>k_all);k_whole)<;>(intro q_hlt' q_h' q_F' q_N';(try k_sweep))))
 k_with "MpyIter ref"=>((k_here;(with_unfolding_all refine' Gt ?k1 ?k2 ?_;(case k1=>k_asm);(case k2=>k_mem);k_whole)))
 k_with "MbinaryOp FloorDiv int int"=>((with_reducible refine JW (by omega) ?_))
 k_with "MbinaryOp Mod int int"=>((with_reducible refine PW (by omega) ?_))
 k_with "Mcall ref"=>(((with_reducible show wpAny _ _ (call (Value.ref 307) _ _) _ _ _);refine Stop.at ?_))
 k_with "Mcall ref"=>(((with_reducible show wpAny _ _ (call (Value.ref 293) _ _) _ _ _);refine Stop.at ?_))
 k_with "Mcall ref"=>(((with_reducible show wpAny _ _ (call (Value.ref 286) _ _) _ _ _);refine Stop.at ?_))
 k_with "Mcall ref"=>(((with_reducible show wpAny _ _ (call (Value.ref 279) _ _) _ _ _);refine Stop.at ?_))
 k_with "Mcall ref"=>(((with_reducible show wpAny _ _ (call (Value.ref 313) _ _) _ _ _);refine Stop.at ?_))
 k_with "Mcall ref"=>(((with_reducible show wpAny _ _ (call (Value.ref 250) _ _) _ _ _);refine Stop.at ?_))
 k_with "Mcall ref"=>(((with_reducible show wpAny _ _ (call (Value.ref 360) _ _) _ _ _);refine Stop.at ?_))
 k_with "Mcall ref"=>(((with_reducible show wpAny _ _ (call (Value.ref 367) _ _) _ _ _);refine Stop.at ?_))
 k_with "Mcall ref"=>(((with_reducible show wpAny _ _ (call (Value.ref 372) _ _) _ _ _);refine Stop.at ?_))
 k_with "Mcall ref"=>(((with_reducible show wpAny _ _ (call (Value.ref 377) _ _) _ _ _);refine Stop.at ?_))
 k_with "Mcall ref"=>(((with_reducible show wpAny _ _ (call (Value.ref 384) _ _) _ _ _);refine Stop.at ?_))
 k_with "Mcall ref"=>(((with_reducible show wpAny _ _ (call (Value.ref 391) _ _) _ _ _);refine Stop.at ?_))
 k_with "Mcall ref"=>(((with_reducible show wpAny _ _ (call (Value.ref 396) _ _) _ _ _);refine Stop.at ?_))
 k_with "Mcall builtin:list.pop"=>((k_here;(with_unfolding_all refine' K0 ?k1 ?k2 ?k3 ?k4 ?_;(case k1=>k_asm);(case k2=>k_asm);(case k3=>k_upd);(case k4=>omega);k_whole);intro q_h' q_F' q_N';(try k_sweep)))
 k_with "Mtruthy ref"=>((k_here;(with_unfolding_all refine' Ho ?k1 ?k2 ?k3 ?_;(case k1=>k_asm);(case k2=>k_mem);(case k3=>omega);k_whole)))
 trivial
local macro_rules | `(tactic| k_room) => `(tactic| k_extra "k_room")
local macro_rules | `(tactic| k_in) => `(tactic| k_extra "ki")
theorem kw_LA_2:True:=by
 k_with "ki"=>(first|k_in_fast|assumption|exact Frag.In.keeps (by k_asm) (Fr.keep (by k_asm)))
 k_with "k_room"=>((try simp only [depth_mark,depth_under_make,depth_under_kw,depth_in1,depth_deeper,depth_caller]);(simp only [recursionLimit]);omega)
 k_with "Meval Name"=>(((with_reducible show wpAny _ _ (eval (Expr.Name _ _) (compEnvC _ _ _ _)) _ _ _);(rename Fr _ _ _ _=>q_cF');(with_unfolding_all refine FJ q_cF' rfl ?_ rfl rfl rfl)))
 k_with "MstoreName"=>(((with_reducible show wpAny _ _ (storeName (compEnvC _ _ _ _) _ _) _ _ _);(rename Fr _ _ _ _=>q_cF');(rename News _ _ _ _=>q_cN');(with_unfolding_all refine Dd q_cF' q_cN' ?_ rfl rfl);intro q_h' q_tk' q_F' q_N';(try k_sweep)))
 k_with "MCompIf nil"=>((dsimp only [CompIf]))
 k_with "MCompIf cons"=>((dsimp only [CompIf]))
 k_with "MCompIf"=>((dsimp only [CompIf]))
 trivial
local macro_rules | `(tactic| k_cells $Y:ident) => `(tactic| k_extra "k_cells")
theorem kw_LA_3:True:=by
 k_with "k_cells"=>((rename CellsAre _ _ _=>q_Y);first|(have hY:=CellsAre.one q_Y;obtain⟨oC1,hE',dC1⟩:=hY;subst hE';clear q_Y)|(have hY:=CellsAre.two q_Y;obtain⟨oC1,oC2,hE',dC1,dC2⟩:=hY;subst hE';clear q_Y))
 trivial
local macro_rules
  | `(tactic| intro $ts*) => do
    if ts.size == 0 then Lean.Macro.throwUnsupported
    let t := ts[0]!
    let n := t.raw.getId.eraseMacroScopes
    let m : Lean.TSyntax `ident := ⟨t.raw⟩
    let r := ts.extract 1 ts.size
    if n == `clo_ then
      let ys := r.filter fun y => y.raw.getId != `p_ && y.raw.getId != `d_ && y.raw.getId != `x_
      `(tactic| (revert $ys*; intro pick_ $r*))
    else if n == `pick_ then
      let a := r.takeWhile fun y => y.raw.getId != `p_
      if a.size < r.size then
        let q := r.extract (a.size + 1) r.size
        let b := q.takeWhile fun y => y.raw.getId != `d_
        let c := q.extract (b.size + 1) q.size
        return ← `(tactic| (intro pick_ $a*; intro $b*; intro pick_ $c*))
      let k := if a.size > 4 then (if a.size > 11 then (if a.size > 15 then 16 else 12) else if a.size > 7 then 8 else if a.size > 5 then 6 else 4) else a.size
      if k == 0 then return ← `(tactic| skip)
      let y := a[0]!
      let z := a.extract 1 k
      let w := a.extract k a.size
      if k == 1 then return ← `(tactic| (refine @HN _ _ (by k_extra "n1") (have $(⟨y.raw⟩):ident := pick _ _ _; Kk $y ?_ :); intro pick_ $w*))
      let h ← `(_)
      let mut p ← `(p_)
      let mut ps := #[]
      for v in z do
        ps := ps.push p
        p ← `(Prod.snd $p)
      let e : Array (Lean.TSyntax `term) := a.extract 0 k
      let mut b ← `(have $(⟨e.back!.raw⟩):ident := $p; $(Lean.mkIdent (.mkSimple s!"bt{k}")) $e* ?_)
      for (v, q) in (e.zip ps).reverse do
        b ← `(have $(⟨v.raw⟩):ident := Prod.fst $q; $b)
      `(tactic| (refine @$(Lean.mkIdent (.mkSimple s!"eps{k}")) $(Array.replicate (k + 1) h)* (by k_extra "ne") (have p_ := pick _ _ _; $b :); intro pick_ $w*))
    else if t.raw.getId.hasMacroScopes || "q_".isPrefixOf n.toString || !t.raw.isIdent then
      if t.raw.isOfKind ``Lean.Parser.Term.hole then `(tactic| (intro x_ $r*))
      else if !t.raw.isIdent && r.size == 0 then Lean.Macro.throwUnsupported
      else
        let q ← if r.size == 0 then `(tactic| skip) else `(tactic| intro $r*)
        if t.raw.isIdent then `(tactic| ((first | refine @HN _ _ (by k_extra "n1") (have $m:ident := pick _ _ _; Kk $m ?_ :) | refine fun $m => ?_); $q))
        else `(tactic| (intro $t:term; $q))
    else if r.any fun y => !y.raw.isIdent then `(tactic| (intro $t:term; intro $r*))
    else Lean.Macro.throwUnsupported
local macro_rules
  | `(tactic| as_aux_lemma => $s) => `(tactic| (refine @zed _ ?p_ ?q_ ?e_; (case q_ => exact type_of% (by (have h : @Zed (type_of% @?p_) (by $s) := trivial); k_extra "za")); (case e_ => exact rfl)))
theorem kw_CA_1:True:=by
 k_with "n1"=>(first|infer_instance|exact Ka|exact PP)
 k_with "ne"=>(iterate 64 (try first|refine ne_p ?_ ?_|infer_instance|exact Ka|exact PP))
 k_with "za"=>((rename Zed _=>q_h);(change _ at q_h);(conv at q_h=>zeta);(conv at q_h=>delta id);exact q_h)
 k_with "Mexecs cons"=>((k_here;k_gentoks;revert tk;intro pick_ tk))
 k_with "Mexecs nil"=>((k_here;k_gentoks;revert tk;intro pick_ tk))
 k_with "MKCjDone"=>((kcj_rest;revert t h tk;intro pick_ t h tk;intro f1 f2;(try k_sweep)))
 trivial
section
theorem kw_W01_1:True:=by
 k_with "ar"=>((fail_if_success k_extra "oW01");with_reducible first|assumption|exact Ne.symm ‹_›|exact Int.ofNat_lt.mpr ‹_›|exact Nat.zero_le _|exact Int.natCast_nonneg _|exact Ar.q20 ‹_› ‹_›|exact Ar.q134 ‹_› ‹_›|exact Ar.q141 ‹_› ‹_›|exact Ar.q189 ‹_›)
 trivial
noncomputable def BS (lt:Addr→Addr→Bool)(x:Addr)(sp:Nat)(pos:Nat)(as:List Addr):List Addr:=
 if h:sp<pos then
  let p:=as.getD ((pos-1)/2) 0
  if lt x p then BS lt x sp ((pos-1)/2) (as.set pos p) else as.set pos x
 else as.set pos x
termination_by pos
decreasing_by exact Ar.parS ‹_›
theorem B0 {lt:Addr→Addr→Bool}{x:Addr}{sp pos:Nat}{as:List Addr}(h:¬sp<pos):BS lt x sp pos as=as.set pos x:=by
 rw [BS];simp [h]
theorem Cp {lt:Addr→Addr→Bool}{x:Addr}{sp pos:Nat}{as:List Addr}(h:sp<pos)(hl:lt x (as.getD ((pos-1)/2) 0)=true):BS lt x sp pos as=BS lt x sp ((pos-1)/2) (as.set pos (as.getD ((pos-1)/2) 0)):=by
 rw [BS];simp only [h,hl,dif_pos,if_true]
theorem CQ {lt:Addr→Addr→Bool}{x:Addr}{sp pos:Nat}{as:List Addr}(h:sp<pos)(hl:lt x (as.getD ((pos-1)/2) 0)=false):BS lt x sp pos as=as.set pos x:=by
 rw [BS];simp only [h,hl,dif_pos,Bool.false_eq_true,if_false]
section
variable{w:World}{dp un:Nat}{fr:Option (List Env)}{gd:Option (List Code)}{s:Shared}{loose:List Str}{mz:ExcName→Option Value}{mg mb:Str→Option Value}{Q E:Value→Shared→Prop}{hb:Heap}
theorem ES {d:Addr}{as:List Addr}{n:Nat}{sp ps:Nat}{t1 t2:Tok}(κ:Addr→List Int)(kb:hb.StaysIn s.heap)(X:(Mine.hd.heap_39 w.params).In hb)(T:Top Mine.hd.view_39 loose mz mg mb hb)
  (hd:dp≤900) (hu:un≤9000) (hd1:s.heap.get? d=some (rl as n)) (hd0:hb.get? d=none) (hps:ps<as.length) (hsz:as.length≤1000) (hκ:∀a∈as,a≠d∧Bc s.heap a (κ a))
  (h:∀h' tk',(∀b o,s.heap.get? b=some o→b≠d→h'.get? b=some o)→h'.get? d=some (rl (BS (fun a b=>AI (κ a) (κ b)) (as.getD ps 0) sp ps as) n)→Q .none {s with heap:=h',toks:=tk'}):
  wpAny (model PR w) (AR dp un fr gd) (call (.ref 300) [.ref d,.int sp t1,.int ps t2]) Q E s:=by
 revert w dp un fr gd s loose mz mg mb Q E hb d as n sp ps t1 t2 κ
 as_aux_lemma=>
 intro pick_ w dp un fr gd s loose mz mg mb Q E hb d as n sp ps t1 t2 κ
 intro kb X T hd hu hd1 hd0 hps hsz hκ h
 k_extra "0D"
 refine' Ag (binds:= [(Str.ofString "heap",.ref d),(Str.ofString "startpos",.int sp t1),(Str.ofString "pos",.int ps t2)]) [(d,rl as n)] kb X T ?m ?k6 ?k7 ?k8 ?k9 ?kB ?_ ?c2 ?c3 ?c4 ?c5
 k_extra "04"
 k_extra "00"
 k_extra "0f"
 dsimp only
 k_extra "0g"
 k_fold
 k_extra "0m"
 k_steps
 k_extra "03"
 refine CT (fun k m₁ nw₁=>∃as₁ t₁,nw₁= [(d,rl as₁ n)]∧Has m₁ [(Str.ofString "heap",Value.ref d),(Str.ofString "startpos",.int sp t1),(Str.ofString "pos",.int k t₁),(Str.ofString "newitem",.ref (as.getD ps 0))]∧
  k<as₁.length∧as₁.length≤1000∧(∀a∈as₁,Bc g a (κ a))∧BS (fun a b=>AI (κ a) (κ b)) (as.getD ps 0) sp k as₁=BS (fun a b=>AI (κ a) (κ b)) (as.getD ps 0) sp ps as) (n₀:=ps) (by assumption) (by assumption) ⟨as,t2,rfl,⟨rfl,rfl,rfl,rfl,trivial⟩,hps,hsz,hκ',rfl⟩ ?turn
 case turn=>
  rintro k m₁ nw₁ h₂ tk₂ F₂ N₂ ⟨as₁,t₁,rfl,hm,hk,hs,hT,hrun⟩
  have F₃:=hm.fr F₂
  clear F₂ hm
  intro clo_ k m₁ h₂ tk₂ as₁ t₁ p_ N₂ hk hs hT hrun F₃
  k_steps
  ·refine JG ((hκ' _ (AN hps)).keep (Fr.keep (by assumption) _)) ((hT _ (AN (by exact Ar.r8 hk ‹_›))).keep (Fr.keep (by assumption) _)) (by show un+3<9900;exact Ar.upA ‹_› (by rfl)) ?_
   k_steps
   ·rename AI _ _=true=>hl
    rename (sp:Int)<_=>hlt
    k_extra "0e"
    k_extra "0a"
    have e:((k:Int)-1)/2=(((k-1)/2:Nat):Int):=by omega
    rw [e,Int.toNat_natCast] at hl
    simp only [e,Int.toNat_natCast] at F5 N5
    have hkn:(k-1)/2<as₁.length:=by exact Ar.par ‹_›
    intro clo_ tk
    refine AZ.intro F5 N5 (n':=(k-1)/2) (by exact Ar.q145 hlt e) ⟨_,_,rfl,⟨rfl,rfl,rfl,rfl,trivial⟩,by simpa using hkn,by simpa using hs,Aw hT (hT _ (AN hkn)),?_⟩
    rw [←hrun,Cp (pos:=k) (by exact Int.ofNat_lt.mp ‹_›) hl]
   ·rename AI _ _=false=>hl
    rename (sp:Int)<_=>hlt
    k_extra "0e"
    k_extra "0a"
    have e:((k:Int)-1)/2=(((k-1)/2:Nat):Int):=by omega
    rw [e,Int.toNat_natCast] at hl
    intro clo_ tk
    k_extra "01M"
    rw [←hrun,CQ (pos:=k) (by exact Int.ofNat_lt.mp ‹_›) hl]
    exact(N5 _ (.head _)).1
  ·rename ¬(sp:Int)<_=>hlt
   k_extra "0e"
   k_extra "0a"
   k_extra "01M"
   rw [←hrun,B0 (pos:=k) (by exact fun q=>hlt (Int.ofNat_lt.mpr q))]
   exact(N5 _ (.head _)).1
end
theorem kw_W01_e:True:=by
 k_with "oW01"=>skip
 trivial
end
section
theorem kw_W02_1:True:=by
 k_with "ar"=>((fail_if_success k_extra "oW02");with_reducible first|assumption|exact Ne.symm ‹_›|exact Int.ofNat_lt.mpr ‹_›|exact Nat.zero_le _|exact Int.natCast_nonneg _|exact Ar.q40 ‹_› ‹_› ‹_›|exact Ar.q55 ‹_›|exact Ar.q77 ‹_› ‹_› ‹_› ‹_›|exact Ar.q86 ‹_› ‹_› ‹_›|exact Ar.q88 ‹_› ‹_› ‹_›|exact Ar.q97 ‹_› ‹_› ‹_›|exact Ar.q103 ‹_› ‹_› ‹_›|exact Ar.q175 ‹_›|exact Ar.q183 ‹_› ‹_› ‹_› ‹_› ‹_›|exact Ar.q216 ‹_› ‹_› ‹_› ‹_›|exact Ar.q220 ‹_› ‹_› ‹_› ‹_›|exact Ar.q224 ‹_›|exact Ar.q264 ‹_› ‹_› ‹_› ‹_›|exact Ar.q269 ‹_›|exact Ar.q20 ‹_› ‹_›|exact Ar.r83 ‹_› ‹_› ‹_›|exact Ar.r266|exact Ar.r288)
 trivial
noncomputable def Aq (lt:Addr→Addr→Bool)(e:Nat)(pos:Nat)(as:List Addr):Nat×List Addr:=
 if h:2*pos+1<e then
  if 2*pos+2<e∧lt (as.getD (2*pos+1) 0) (as.getD (2*pos+2) 0)=false then Aq lt e (2*pos+2) (as.set pos (as.getD (2*pos+2) 0))
  else Aq lt e (2*pos+1) (as.set pos (as.getD (2*pos+1) 0))
 else(pos,as)
termination_by e-pos
decreasing_by all_goals(first|exact Ar.q55 h|exact Ar.r5 ‹_›)
noncomputable def siftup (lt:Addr→Addr→Bool)(pos:Nat)(as:List Addr):List Addr:=
 BS lt (as.getD pos 0) pos (Aq lt as.length pos as).1 ((Aq lt as.length pos as).2.set (Aq lt as.length pos as).1 (as.getD pos 0))
theorem kw_W02_2:True:=by
 k_with "MsubscriptTail Name Name ref int"=>((fail_if_success k_extra "oW02");(k_extra "MsubscriptTail"))
 trivial
theorem Bz {lt:Addr→Addr→Bool}{e pos:Nat}{as:List Addr}(h:¬2*pos+1<e):Aq lt e pos as=(pos,as):=by
 rw [Aq];simp [h]
theorem Bd {lt:Addr→Addr→Bool}{e pos:Nat}{as:List Addr}(h:2*pos+2<e)(hl:lt (as.getD (2*pos+1) 0) (as.getD (2*pos+2) 0)=false):
  Aq lt e pos as=Aq lt e (2*pos+2) (as.set pos (as.getD (2*pos+2) 0)):=by
 rw [Aq,dif_pos (by exact Nat.lt_of_succ_lt h),if_pos ⟨h,hl⟩]
theorem BY {lt:Addr→Addr→Bool}{e pos:Nat}{as:List Addr}(h:2*pos+1<e)(hl:2*pos+2<e→lt (as.getD (2*pos+1) 0) (as.getD (2*pos+2) 0)=true):
  Aq lt e pos as=Aq lt e (2*pos+1) (as.set pos (as.getD (2*pos+1) 0)):=by
 rw [Aq,dif_pos h,if_neg]
 rintro⟨a,b⟩
 rw [hl a] at b;cases b
theorem Et {g h:Heap}{L d:Addr}{m:Str→Option Value}{κ:Addr→List Int}{as:List Addr}(hT:∀a∈as,Bc g a (κ a))(F:Fr g L h m)(hd:g.get? d=none):∀a∈as,a≠d∧Bc h a (κ a):=fun a ha=>by
 have:=hT a ha
 refine⟨fun q=>?_,this.keep (F.keep _)⟩
 obtain⟨vs,n',e,_⟩:=this
 rw [q,hd] at e;cases e
theorem Ey {lt:Addr→Addr→Bool}{x:Addr}{sp:Nat}:∀(pos:Nat) (as:List Addr),(BS lt x sp pos as).length=as.length:=by
 intro pos
 induction pos using Nat.strongRecOn with
 |ind pos ih=>
  intro as
  by_cases h:sp<pos
  ·cases hl:lt x (as.getD ((pos-1)/2) 0) with
   |true=>rw [Cp h hl,ih _ (by exact Ar.parS ‹_›),List.length_set]
   |false=>rw [CQ h hl,List.length_set]
  ·rw [B0 h,List.length_set]
theorem Cn {lt:Addr→Addr→Bool}{e:Nat}:∀(k pos:Nat) (as:List Addr),e-pos=k→(Aq lt e pos as).2.length=as.length:=by
 intro k
 induction k using Nat.strongRecOn with
 |ind k ih=>
  intro pos as hk
  by_cases h:2*pos+1<e
  ·by_cases h2:2*pos+2<e∧lt (as.getD (2*pos+1) 0) (as.getD (2*pos+2) 0)=false
   ·rw [Bd h2.1 h2.2,ih _ (by exact hk▸Nat.sub_lt_sub_left (Nat.lt_trans Ar.dblt h2.1) Ar.dblt) _ _ rfl,List.length_set]
   ·rw [BY h (fun a=>by
     cases q:lt (as.getD (2*pos+1) 0) (as.getD (2*pos+2) 0) with
     |true=>rfl
     |false=>exact absurd ⟨a,q⟩ h2),ih _ (by exact Ar.su1 ‹_› ‹_›) _ _ rfl,List.length_set]
  ·rw [Bz h]
theorem Bl {lt:Addr→Addr→Bool}{p:Nat}{as:List Addr}:(siftup lt p as).length=as.length:=by
 unfold siftup
 rw [Ey,List.length_set,Cn _ _ _ rfl]
theorem Hl {P:Addr→Prop}{lt:Addr→Addr→Bool}{x:Addr}{sp:Nat}(hx:P x):∀(pos:Nat) (as:List Addr),pos<as.length→(∀a∈as,P a)→∀a∈BS lt x sp pos as,P a:=by
 intro pos
 induction pos using Nat.strongRecOn with
 |ind pos ih=>
  intro as hp ha
  by_cases h:sp<pos
  ·cases hl:lt x (as.getD ((pos-1)/2) 0) with
   |true=>rw [Cp h hl];exact ih _ (by exact Ar.parS ‹_›) _ (by rw [List.length_set];exact Ar.par ‹_›) (Aw ha (ha _ (AN (by exact Ar.par ‹_›))))
   |false=>rw [CQ h hl];exact Aw ha hx
  ·rw [B0 h];exact Aw ha hx
theorem Hi {P:Addr→Prop}{lt:Addr→Addr→Bool}:∀(k pos:Nat) (as:List Addr),as.length-pos=k→pos<as.length→(∀a∈as,P a)→(Aq lt as.length pos as).1<as.length∧∀a∈(Aq lt as.length pos as).2,P a:=by
 intro k
 induction k using Nat.strongRecOn with
 |ind k ih=>
  intro pos as hk hp ha
  by_cases h:2*pos+1<as.length
  ·by_cases h2:2*pos+2<as.length∧lt (as.getD (2*pos+1) 0) (as.getD (2*pos+2) 0)=false
   ·rw [Bd h2.1 h2.2]
    have:=ih (as.length-(2*pos+2)) (by exact hk▸Nat.sub_lt_sub_left (Nat.lt_trans Ar.dblt h2.1) Ar.dblt) (2*pos+2) (as.set pos (as.getD (2*pos+2) 0)) (by rw [List.length_set]) (by rw [List.length_set];exact h2.1) (Aw ha (ha _ (AN (by exact h2.1))))
    rw [List.length_set] at this;exact this
   ·rw [BY h (fun a=>by
     cases q:lt (as.getD (2*pos+1) 0) (as.getD (2*pos+2) 0) with
     |true=>rfl
     |false=>exact absurd ⟨a,q⟩ h2)]
    have:=ih (as.length-(2*pos+1)) (by exact Ar.su1 ‹_› ‹_›) (2*pos+1) (as.set pos (as.getD (2*pos+1) 0)) (by rw [List.length_set]) (by rw [List.length_set];assumption) (Aw ha (ha _ (AN (by assumption))))
    rw [List.length_set] at this;exact this
  ·rw [Bz h];exact⟨hp,ha⟩
theorem Ge {P:Addr→Prop}{lt:Addr→Addr→Bool}{p:Nat}{as:List Addr}(hp:p<as.length)(ha:∀a∈as,P a):∀a∈siftup lt p as,P a:=by
 have h:=Hi (lt:=lt) _ p as rfl hp ha
 have hl:=Cn (lt:=lt) (e:=as.length) _ p as rfl
 have hx:P (as.getD p 0):=ha _ (AN hp)
 unfold siftup
 exact Hl hx _ _ (by rw [List.length_set,hl];exact h.1) (Aw h.2 hx)
section
variable{w:World}{dp un:Nat}{fr:Option (List Env)}{gd:Option (List Code)}{s:Shared}{loose:List Str}{mz:ExcName→Option Value}{mg mb:Str→Option Value}{Q E:Value→Shared→Prop}{hb:Heap}
theorem CD {d:Addr}{as:List Addr}{n:Nat}{ps:Nat}{t2:Tok}(κ:Addr→List Int)(kb:hb.StaysIn s.heap)(X:(Mine.hd.heap_39 w.params).In hb)(T:Top Mine.hd.view_39 loose mz mg mb hb)
  (hd:dp≤800) (hu:un≤8000) (hd1:s.heap.get? d=some (rl as n)) (hd0:hb.get? d=none) (hps:ps<as.length) (hsz:as.length≤1000) (hκ:∀a∈as,a≠d∧Bc s.heap a (κ a))
  (h:∀h' tk',(∀b o,s.heap.get? b=some o→b≠d→h'.get? b=some o)→h'.get? d=some (rl (siftup (fun a b=>AI (κ a) (κ b)) ps as) n)→Q .none {s with heap:=h',toks:=tk'}):
  wpAny (model PR w) (AR dp un fr gd) (call (.ref 307) [.ref d,.int ps t2]) Q E s:=by
 revert w dp un fr gd s loose mz mg mb Q E hb d as n ps t2 κ
 as_aux_lemma=>
 intro pick_ w dp un fr gd s loose mz mg mb Q E hb d as n ps t2 κ
 intro kb X T hd hu hd1 hd0 hps hsz hκ h
 k_extra "0D"
 refine' Ag (binds:= [(Str.ofString "heap",.ref d),(Str.ofString "pos",.int ps t2)]) [(d,rl as n)] kb X T ?m ?k6 ?k7 ?k8 ?k9 ?kB ?_ ?c2 ?c3 ?c4 ?c5
 k_extra "04"
 k_extra "00"
 k_extra "0f"
 dsimp only
 k_extra "0g"
 k_fold
 k_extra "0m"
 k_steps
 intro clo_ tk p_ x_
 k_extra "03"
 refine CT (fun k m₁ nw₁=>∃as₁ p₁ c₁ t₁ t₃ t₄ t₅,nw₁= [(d,rl as₁ n)]∧Has m₁ [(Str.ofString "heap",Value.ref d),(Str.ofString "pos",.int (p₁:Nat) t₁),(Str.ofString "endpos",.int as.length t₃),(Str.ofString "startpos",.int ps t₄),(Str.ofString "newitem",.ref (as.getD ps 0)),(Str.ofString "childpos",.int (c₁:Nat) t₅)]∧
  c₁=2*p₁+1∧p₁+k=as.length∧0<k∧as₁.length=as.length∧(∀a∈as₁,Bc g a (κ a))∧Aq (fun a b=>AI (κ a) (κ b)) as.length p₁ as₁=Aq (fun a b=>AI (κ a) (κ b)) as.length ps as) (n₀:=as.length-ps) (by assumption) (by assumption)
  ⟨as,ps,2*ps+1,_,_,_,_,rfl,⟨rfl,rfl,rfl,rfl,rfl,rfl,trivial⟩,rfl,by exact Ar.nsub ‹_›,by exact Ar.subP ‹_›,rfl,hκ',rfl⟩ ?turn
 case turn=>
  rintro k m₁ nw₁ h₂ tk₂ F₂ N₂ ⟨as₁,p₁,c₁,t₁,t₃,t₄,t₅,rfl,hm,hc,hk,hk0,hs,hT,hrun⟩
  have F₃:=hm.fr F₂
  clear F₂ hm
  intro clo_ k m₁ h₂ tk₂ as₁ p₁ c₁ t₁ t₃ t₄ t₅ p_ N₂ hc hk hk0 hs hT hrun F₃
  k_steps
  ·k_extra "03V"
   have hc2:c₁+1<as₁.length:=by exact Ar.r55 hc hs ‹_› ‹_›
   refine JG ((hT _ (AN (i:=c₁) hc1)).keep (Fr.keep (by assumption) _)) ((hT _ (AN (i:=c₁+1) hc2)).keep (Fr.keep (by assumption) _)) (by show un+3<9900;exact Ar.upA ‹_› (by rfl)) ?_
   k_steps
   ·rename AI _ _=true=>hl
    k_extra "0e"
    k_extra "0a"
    intro clo_ tk p_ F5
    refine AZ.intro F5 N5 (n':=as.length-c₁) (by exact Ar.q122 hc hk hk0) ⟨_,c₁,2*c₁+1,_,_,_,_,rfl,⟨rfl,rfl,rfl,rfl,rfl,rfl,trivial⟩,rfl,by exact Ar.zsub ‹_›,by exact Ar.zsubP ‹_›,by simpa using hs,Aw hT (hT _ (AN hc1)),?_⟩
    subst hc
    rw [←hrun,BY (pos:=p₁) (by exact Ar.rr ‹_› ‹_›) (fun _=>hl)]
    rfl
   ·rename AI _ _=false=>hl
    k_extra "0e"
    k_extra "0a"
    intro clo_ tk p_ F5
    refine AZ.intro F5 N5 (n':=as.length-(c₁+1)) (by exact Ar.q132 hc hk ‹_›) ⟨_,c₁+1,2*(c₁+1)+1,_,_,_,_,rfl,⟨rfl,rfl,rfl,rfl,rfl,rfl,trivial⟩,rfl,by exact Ar.nsubS' ‹_›,by exact Ar.q154 hc ‹_› ‹_›,by simpa using hs,Aw hT (hT _ (AN hc2)),?_⟩
    subst hc
    rw [←hrun,Bd (pos:=p₁) (by exact Ar.rr ‹_› ‹_›) hl]
    rfl
  ·k_extra "0e"
   k_extra "0a"
   k_extra "03V"
   intro clo_ tk p_ F5
   refine AZ.intro F5 N5 (n':=as.length-c₁) (by exact Ar.r13 hc hk ‹_› ‹_›) ⟨_,c₁,2*c₁+1,_,_,_,_,rfl,⟨rfl,rfl,rfl,rfl,rfl,rfl,trivial⟩,rfl,by exact Ar.zsub ‹_›,by exact Ar.zsubP ‹_›,by simpa using hs,Aw hT (hT _ (AN hc1)),?_⟩
   subst hc
   rw [←hrun,BY (pos:=p₁) (by exact Ar.rr ‹_› ‹_›) (fun _=>by exact Ar.r29 hk ‹_› ‹_› ‹_›)]
   rfl
  ·k_extra "0e"
   k_extra "0a"
   k_extra "03"
   have hp1:p₁<as₁.length:=by exact hs▸hk▸Nat.lt_add_of_pos_right hk0
   refine ES κ (Fr.keep F5) X' T' (show dp+1≤900 by exact Ar.up ‹_› (by rfl)) (show un+3≤9000 by exact Ar.up ‹_› (by rfl)) (N5 _ (.head _)).1 (N5 _ (.head _)).2.2 (by rw [List.length_set];exact hp1) (by rw [List.length_set];exact Ar.upES ‹_› ‹_› (by rfl)) (fun a ha=>?_) fun h' tk' k' hd'=>?_
   ·have:=Aw (i:=p₁) hT (hκ' _ (AN hps)) a ha
    intro clo_ a p_ ha this
    refine⟨fun q=>?_,this.keep (Fr.keep F5 _)⟩
    obtain⟨vs,n',e,_⟩:=this
    have z:=(N5 _ (.head _)).2.2
    rw [←q,e] at z;cases z
   ·k_extra "05i"
    k_extra "01W"
    clear F5 N5
    k_steps
    refine h _ _ (fun b o e hb=>F6.keep b o (keep b o e (by simp [hb]))) ?_
    have e2:=Bz (lt:=fun a b=>AI (κ a) (κ b)) (e:=as.length) (pos:=p₁) (as:=as₁) (by exact Ar.r93 hc ‹_›)
    have e3:=(N6 _ (.head _)).1
    rw [e2] at hrun
    unfold siftup
    rw [←hrun]
    have e4:(as₁.set p₁ (as.getD ps 0)).getD p₁ 0=as.getD ps 0:=by simp [List.getD_eq_getElem?_getD,hp1]
    have e5:(as₁.set (p₁:Int).toNat (as.getD ps 0)).getD p₁ 0=as.getD ps 0:=e4
    rw [e5] at e3
    exact e3
end
theorem kw_W02_e:True:=by
 k_with "oW02"=>skip
 trivial
end
section
theorem kw_W03_1:True:=by
 k_with "ar"=>((fail_if_success k_extra "oW03");with_reducible first|assumption|exact Ne.symm ‹_›|exact Int.ofNat_lt.mpr ‹_›|exact Nat.zero_le _|exact Int.natCast_nonneg _|exact Ar.r158 ‹_›|exact Ar.r322 ‹_›)
 trivial
noncomputable def AQ (lt:Addr→Addr→Bool):Nat→List Addr→List Addr
 |0,as=>as
 |k+1,as=>AQ lt k (siftup lt k as)
section
variable{w:World}{dp un:Nat}{fr:Option (List Env)}{gd:Option (List Code)}{s:Shared}{loose:List Str}{mz:ExcName→Option Value}{mg mb:Str→Option Value}{Q E:Value→Shared→Prop}{hb:Heap}
theorem Cw {d:Addr}{as:List Addr}{n:Nat}(κ:Addr→List Int)(kb:hb.StaysIn s.heap)(X:(Mine.hd.heap_39 w.params).In hb)(T:Top Mine.hd.view_39 loose mz mg mb hb)
  (hd:dp≤700) (hu:un≤7000) (hd1:s.heap.get? d=some (rl as n)) (hd0:hb.get? d=none) (hsz:as.length≤1000) (hκ:∀a∈as,a≠d∧Bc s.heap a (κ a))
  (h:∀h' tk',(∀b o,s.heap.get? b=some o→b≠d→h'.get? b=some o)→h'.get? d=some (rl (AQ (fun a b=>AI (κ a) (κ b)) (as.length/2) as) n)→Q .none {s with heap:=h',toks:=tk'}):
  wpAny (model PR w) (AR dp un fr gd) (call (.ref 293) [.ref d]) Q E s:=by
 revert w dp un fr gd s loose mz mg mb Q E hb d as n κ
 as_aux_lemma=>
 intro pick_ w dp un fr gd s loose mz mg mb Q E hb d as n κ
 intro kb X T hd hu hd1 hd0 hsz hκ h
 k_extra "0D"
 refine' Ag (binds:= [(Str.ofString "x",.ref d)]) [(d,rl as n)] kb X T ?m ?k6 ?k7 ?k8 ?k9 ?kB ?_ ?c2 ?c3 ?c4 ?c5
 k_extra "04"
 k_extra "00"
 k_extra "0f"
 dsimp only
 k_extra "0g"
 k_fold
 k_extra "0m"
 k_steps
 rename Addr=>I5;rename Heap=>h5;rename Fr _ _ _ _=>F5;rename News _ _ _ _=>N5;rename d<I5=>l5
 intro clo_ tk p_ x_ x_ d_ I5 h5 p_ F5 N5 l5
 refine⟨fun k m₁ nw₁=>∃as₁,nw₁= [(I5,AJ ((k:Int)-1) k (-1)),(d,rl as₁ n)]∧Has m₁ [(Str.ofString "x",Value.ref d)]∧as₁.length=as.length∧k≤as.length/2∧(∀a∈as₁,Bc g a (κ a))∧
  AQ (fun a b=>AI (κ a) (κ b)) k as₁=AQ (fun a b=>AI (κ a) (κ b)) (as.length/2) as,as.length/2,_,_,F5,N5,⟨as,rfl,⟨rfl,trivial⟩,rfl,Nat.le_refl _,hκ',rfl⟩,?_⟩
 clear F5 N5
 rintro k m₁ nw₁ h₂ tk₂ F₂ N₂ ⟨as₁,rfl,hm,hs,hk,hT,hrun⟩
 have F₃:=hm.fr F₂
 clear F₂ hm
 intro clo_ k m₁ h₂ tk₂ as₁ p_ N₂ hs hk hT hrun F₃
 k_steps
 ·k_extra "0e"
  k_extra "0a"
  rename 0<(k:Int)=>hlt
  intro clo_ tk
  obtain⟨j,rfl⟩:∃j,k=j+1:=⟨k-1,by exact(Nat.sub_add_cancel (Int.ofNat_lt.mp hlt)).symm⟩
  have ej:((j+1:Nat):Int)-1=j:=by omega
  rw [ej] at F5 N5⊢
  intro clo_ j p_ hk hrun hlt F5 N5 ej
  k_extra "03"
  have hj:j<as₁.length:=by exact Ar.q284 hs hk
  refine CD κ (Fr.keep F5) X' T' (show dp+1≤800 by exact Ar.up ‹_› (by rfl)) (show un+3≤8000 by exact Ar.up ‹_› (by rfl)) (N5 _ mm1).1 (N5 _ mm1).2.2 hj (by exact Ar.upES ‹_› ‹_› (by rfl)) (Et hT F5 (N5 _ mm1).2.2) fun h' tk' k' hd'=>?_
  k_extra "05i"
  obtain⟨F6,N6⟩:=after F5 N5 (Upd.tail (show I5≠d from Ne.symm (Nat.ne_of_lt l5)) (Upd.head (fun _ h=>nomatch h))) k' hd'
  clear F5 N5
  k_steps
  exact AZ.intro F6 N6 (n':=j) (by omega) ⟨_,by rw [show(j:Int)+ -1=(j:Int)-1 by omega],⟨rfl,trivial⟩,Bl.trans hs,by exact Nat.le_of_succ_le hk,Ge hj hT,hrun⟩
 ·k_extra "0e"
  k_extra "0a"
  rename (k:Int)≤0=>hlt
  obtain rfl:k=0:=by omega
  k_extra "01M"
  rw [←hrun]
  exact(N5 _ (.head _)).1
end
theorem kw_W03_e:True:=by
 k_with "oW03"=>skip
 trivial
end
noncomputable def AW (K:Addr→Int)(p:Nat)(as:List Addr):Prop:=∀i,i<as.length→0<i→p≤(i-1)/2→K (as.getD ((i-1)/2) 0)≤K (as.getD i 0)
inductive DX (p:Nat):Nat→Prop
 |self:DX p p
 |left {q}:DX p q→DX p (2*q+1)
 |right {q}:DX p q→DX p (2*q+2)
theorem DX.le {p q:Nat}(h:DX p q):p≤q:=by induction h<;>first|exact Nat.le_refl _|exact Ar.r202 ‹_›|exact Ar.r212 ‹_›
theorem DX.up {p q:Nat}(h:DX p q)(hn:p<q):DX p ((q-1)/2):=by
 cases h with
 |self=>omega
 | @left q h=>rw [show(2*q+1-1)/2=q by exact Ar.par1];exact h
 | @right q h=>rw [show(2*q+2-1)/2=q by exact Ar.par2];exact h
theorem Af {as:List Addr}{i:Nat}{x:Addr}(h:i<as.length):(as.set i x).getD i 0=x:=by
 simp [h]
theorem AO {as:List Addr}{i j:Nat}{x:Addr}(h:i≠j):(as.set i x).getD j 0=as.getD j 0:=by
 simp [List.getElem?_set_ne h]
theorem Ed {as:List Addr}{i j:Nat}{x:Addr}(hi:i<as.length)(hj:j<as.length)(hij:i≠j):((as.set i (as.getD j 0)).set j x).Perm (as.set i x):=by
 have key:∀(l:List Addr) (a:Addr) {k:Nat},k<l.length→(l.set k a).Perm (a::l.eraseIdx k):=by
  intro l a k hk
  rw [List.set_eq_take_append_cons_drop,if_pos hk,List.eraseIdx_eq_take_drop_succ]
  exact List.perm_middle
 have h1:((as.set i (as.getD j 0)).set j x).Perm (x::(as.set i (as.getD j 0)).eraseIdx j):=key _ _ (by simpa using hj)
 have h2:(as.set i (as.getD j 0)).Perm (as.getD j 0::(as.set i (as.getD j 0)).eraseIdx j):=by
  have:=key (as.set i (as.getD j 0)) (as.getD j 0) (k:=j) (by simpa using hj)
  have e:(as.set i (as.getD j 0)).set j (as.getD j 0)=as.set i (as.getD j 0):=by
   apply List.ext_getElem
   ·simp
   ·intro k h1 h2
    by_cases hk:j=k
    ·subst hk
     simp [List.getElem_set,hij,hj]
    ·simp [List.getElem_set,hk]
  rw [e] at this
  exact this
 have h3:(as.set i (as.getD j 0)).Perm (as.getD j 0::as.eraseIdx i):=key _ _ hi
 have h4:((as.set i (as.getD j 0)).eraseIdx j).Perm (as.eraseIdx i):=(List.perm_cons _).mp (h2.symm.trans h3)
 exact h1.trans ((List.Perm.cons x h4).trans (key as x hi).symm)
structure DG (K:Addr→Int) (p:Nat) (x:Addr) (as0:List Addr) (pos:Nat) (cur:List Addr):Prop where
 lt:pos<cur.length
 desc:DX p pos
 perm:(cur.set pos x).Perm as0
 rel:∀i,i<cur.length→0<i→p≤(i-1)/2→i≠pos→(i-1)/2≠pos→K (cur.getD ((i-1)/2) 0)≤K (cur.getD i 0)
 grand:p<pos→∀c,c<cur.length→0<c→(c-1)/2=pos→K (cur.getD ((pos-1)/2) 0)≤K (cur.getD c 0)
theorem DG.fill {K:Addr→Int}{p:Nat}{x:Addr}{as0:List Addr}{pos:Nat}{cur:List Addr}(H:DG K p x as0 pos cur)(hup:p<pos→K (cur.getD ((pos-1)/2) 0)≤K x)(hdown:∀c,c<cur.length→0<c→(c-1)/2=pos→K x≤K (cur.getD c 0)):
  AW K p (cur.set pos x):=fun i hi h0 hp=>by
 k_extra "052"
 by_cases h1:i=pos
 ·subst h1
  rw [Af hi,AO (by exact Ar.q36 h0)]
  exact hup (by exact Ar.parL ‹_› ‹_›)
 ·by_cases h2:(i-1)/2=pos
  ·rw [h2,Af H.lt,AO (by exact Ne.symm ‹_›)]
   exact hdown i hi h0 h2
  ·k_extra "04u"
   exact H.rel i hi h0 hp h1 h2
theorem DG.sink {K:Addr→Int}{p:Nat}{x:Addr}{as0:List Addr}{pos c:Nat}{cur:List Addr}(H:DG K p x as0 pos cur)(hc:c<cur.length)(h0:0<c)(hpc:(c-1)/2=pos)
  (hmin:∀d,d<cur.length→0<d→(d-1)/2=pos→K (cur.getD c 0)≤K (cur.getD d 0)):DG K p x as0 c (cur.set pos (cur.getD c 0)):=by
 have hd:DX p c:=by
  have:c=2*pos+1∨c=2*pos+2:=by exact Ar.parO ‹_› ‹_›
  rcases this with rfl|rfl
  ·exact .left H.desc
  ·exact .right H.desc
 have hle:=H.desc.le
 refine⟨by simpa using hc,hd,(Ed H.lt hc (by exact Ar.q167 h0 hpc)).trans H.perm,fun i hi hi0 hp h1 h2=>?_,fun _ d hd' hd0 hdp=>?_⟩
 ·k_extra "052"
  by_cases e1:i=pos
  ·subst e1
   rw [Af hi,AO (by exact Ar.q36 hi0)]
   exact H.grand (by exact Ar.parL ‹_› ‹_›) c hc h0 hpc
  ·by_cases e2:(i-1)/2=pos
   ·k_extra "03u"
    exact hmin i hi hi0 e2
   ·k_extra "04v"
    exact H.rel i hi hi0 hp e1 e2
 ·rw [List.length_set] at hd'
  rw [hpc,Af H.lt,AO (by exact Ar.q45 h0 hpc hd0 hdp),←hdp]
  exact H.rel d hd' hd0 (by exact Ar.r204 ‹_› hdp) (by exact Ar.q46 h0 hpc hd0 hdp) (by exact Ar.q164 h0 hpc hdp)
theorem DG.rise {K:Addr→Int}{p:Nat}{x:Addr}{as0:List Addr}{pos:Nat}{cur:List Addr}(H:DG K p x as0 pos cur)(hp:p<pos)(hx:K x<K (cur.getD ((pos-1)/2) 0)):
  DG K p x as0 ((pos-1)/2) (cur.set pos (cur.getD ((pos-1)/2) 0))∧
   ∀c,c<(cur.set pos (cur.getD ((pos-1)/2) 0)).length→0<c→(c-1)/2=(pos-1)/2→K x≤K ((cur.set pos (cur.getD ((pos-1)/2) 0)).getD c 0):=by
 have hq:=H.desc.up hp
 have hqle:=hq.le
 have hlt:=H.lt
 refine⟨⟨by simp;exact Ar.par ‹_›,hq,(Ed H.lt (by exact Ar.par ‹_›) (by exact Ar.q129 hp hqle)).trans H.perm,fun i hi hi0 hp' h1 h2=>?_,fun hq' c hc h0 hcq=>?_⟩,fun c hc h0 hcq=>?_⟩
 ·k_extra "052"
  by_cases e1:i=pos
  ·exact absurd (by rw [e1]) h2
  ·by_cases e2:(i-1)/2=pos
   ·k_extra "03u"
    exact H.grand hp i hi hi0 e2
   ·k_extra "04v"
    exact H.rel i hi hi0 hp' e1 e2
 ·k_extra "05r"
  have g:K (cur.getD (((pos-1)/2-1)/2) 0)≤K (cur.getD ((pos-1)/2) 0):=H.rel _ (by exact Ar.par ‹_›) (by exact Nat.zero_lt_of_lt hq') (hq.up hq').le (by exact Ar.q127 hp hqle) (by exact Ar.q32 hqle hq')
  rw [AO (by exact Ar.q34 hqle hq')]
  by_cases e1:c=pos
  ·subst e1
   rw [Af hc]
   exact g
  ·rw [AO (Ne.symm e1)]
   refine Int.le_trans g ?_
   rw [←hcq]
   exact H.rel c hc h0 (by exact Ar.rle ‹_› ‹_›) e1 (by exact Ar.q19 hp hcq)
 ·k_extra "05r"
  by_cases e1:c=pos
  ·subst e1
   rw [Af hc]
   exact Ar.q165 hx
  ·rw [AO (Ne.symm e1)]
   have:K (cur.getD ((c-1)/2) 0)≤K (cur.getD c 0):=H.rel c hc h0 (by exact Ar.rle ‹_› ‹_›) e1 (by exact Ar.q19 hp hcq)
   rw [hcq] at this
   exact Ar.q465 hx this
theorem Gf {K:Addr→Int}{lt:Addr→Addr→Bool}(hlt:∀a b,lt a b=decide (K a<K b)){p:Nat}{x:Addr}{as0:List Addr}:∀(pos:Nat) (cur:List Addr),DG K p x as0 pos cur→(∀c,c<cur.length→0<c→(c-1)/2=pos→K x≤K (cur.getD c 0))→
  AW K p (BS lt x p pos cur)∧(BS lt x p pos cur).Perm as0:=by
 intro pos
 induction pos using Nat.strongRecOn with
 |ind pos ih=>
  intro cur H hd
  by_cases h:p<pos
  ·cases hl:lt x (cur.getD ((pos-1)/2) 0) with
   |true=>
    rw [Cp h hl]
    rw [hlt,decide_eq_true_eq] at hl
    obtain⟨H',hd'⟩:=H.rise h hl
    exact ih _ (by exact Ar.parS ‹_›) _ H' hd'
   |false=>
    rw [CQ h hl]
    rw [hlt,decide_eq_false_iff_not] at hl
    exact⟨H.fill (fun _=>by exact Ar.q262 hl) hd,H.perm⟩
  ·rw [B0 h]
   exact⟨H.fill (fun q=>absurd q h) hd,H.perm⟩
theorem Gc {K:Addr→Int}{lt:Addr→Addr→Bool}(hlt:∀a b,lt a b=decide (K a<K b)){p:Nat}{x:Addr}{as0:List Addr}:∀(k pos:Nat) (cur:List Addr),cur.length-pos=k→DG K p x as0 pos cur→
  DG K p x as0 (Aq lt cur.length pos cur).1 (Aq lt cur.length pos cur).2∧¬2*(Aq lt cur.length pos cur).1+1<(Aq lt cur.length pos cur).2.length:=by
 intro k
 induction k using Nat.strongRecOn with
 |ind k ih=>
  intro pos cur hk H
  by_cases h:2*pos+1<cur.length
  ·by_cases h2:2*pos+2<cur.length∧lt (cur.getD (2*pos+1) 0) (cur.getD (2*pos+2) 0)=false
   ·rw [Bd h2.1 h2.2]
    have hl:=h2.2
    rw [hlt,decide_eq_false_iff_not] at hl
    have S:=H.sink (c:=2*pos+2) h2.1 (by omega) (by exact Ar.par2) fun d hd hd0 hdp=>by
     have:d=2*pos+1∨d=2*pos+2:=by exact Ar.parO ‹_› ‹_›
     rcases this with rfl|rfl<;>(first|exact Ar.q262 hl|omega)
    have:=ih (cur.length-(2*pos+2)) (by exact hk▸Nat.sub_lt_sub_left (Nat.lt_trans Ar.dblt h2.1) Ar.dblt) (2*pos+2) (cur.set pos (cur.getD (2*pos+2) 0)) (by rw [List.length_set]) S
    rwa [List.length_set] at this
   ·have hl:2*pos+2<cur.length→lt (cur.getD (2*pos+1) 0) (cur.getD (2*pos+2) 0)=true:=fun a=>by
     cases q:lt (cur.getD (2*pos+1) 0) (cur.getD (2*pos+2) 0) with
     |true=>rfl
     |false=>exact absurd ⟨a,q⟩ h2
    rw [BY h hl]
    have S:=H.sink (c:=2*pos+1) h (by omega) (by exact Ar.par1) fun d hd hd0 hdp=>by
     have:d=2*pos+1∨d=2*pos+2:=by exact Ar.parO ‹_› ‹_›
     rcases this with rfl|rfl
     ·omega
     ·have:=hl hd
      rw [hlt,decide_eq_true_eq] at this
      exact Ar.q165 this
    have:=ih (cur.length-(2*pos+1)) (by exact Ar.su1 ‹_› ‹_›) (2*pos+1) (cur.set pos (cur.getD (2*pos+1) 0)) (by rw [List.length_set]) S
    rwa [List.length_set] at this
  ·rw [Bz h]
   exact⟨H,h⟩
theorem Be {K:Addr→Int}{lt:Addr→Addr→Bool}(hlt:∀a b,lt a b=decide (K a<K b)){p:Nat}{as:List Addr}(hp:p<as.length)(h:AW K (p+1) as):AW K p (siftup lt p as)∧(siftup lt p as).Perm as:=by
 have e:as.set p (as.getD p 0)=as:=by
  apply List.ext_getElem
  ·simp
  ·intro k h1 h2
   by_cases hk:p=k
   ·subst hk;simp [hp]
   ·simp [List.getElem_set,hk]
 have H:DG K p (as.getD p 0) as p as:=⟨hp,.self,by rw [e],fun i hi h0 hle h1 h2=>h i hi h0 (by exact Nat.lt_of_le_of_ne hle (Ne.symm h2)),fun q=>absurd q (Nat.lt_irrefl _)⟩
 obtain⟨H1,hend⟩:=Gc hlt (as.length-p) p as rfl H
 unfold siftup
 generalize Aq lt as.length p as=r at H1 hend
 obtain⟨pos,cur⟩:=r
 dsimp only at H1 hend⊢
 have H2:DG K p (as.getD p 0) as pos (cur.set pos (as.getD p 0)):=by
  refine⟨by simpa using H1.lt,H1.desc,by rw [List.set_set];exact H1.perm,fun i hi h0 hle h1 h2=>?_,fun hpp c hc h0 hcp=>?_⟩
  ·k_extra "052"
   k_extra "04u"
   exact H1.rel i hi h0 hle h1 h2
  ·k_extra "05r"
   exact Ar.q17 hend hc h0 hcp
 exact Gf hlt pos _ H2 fun c hc h0 hcp=>by
  k_extra "05r"
  exact Ar.q17 hend hc h0 hcp
theorem Cx {K:Addr→Int}{lt:Addr→Addr→Bool}(hlt:∀a b,lt a b=decide (K a<K b)):∀(k:Nat) (as:List Addr),k≤as.length→AW K k as→AW K 0 (AQ lt k as)∧(AQ lt k as).Perm as
 |0,as,_,h=>⟨h,.refl _⟩
 |k+1,as,hk,h=>by
  obtain⟨h1,p1⟩:=Be hlt (p:=k) (by exact Ar.q553 hk) h
  obtain⟨h2,p2⟩:=Cx hlt k (siftup lt k as) (by rw [Bl];exact Ar.q205 hk) h1
  exact⟨h2,p2.trans p1⟩
theorem CI {K:Addr→Int}{lt:Addr→Addr→Bool}(hlt:∀a b,lt a b=decide (K a<K b))(as:List Addr):AW K 0 (AQ lt (as.length/2) as)∧(AQ lt (as.length/2) as).Perm as:=
 Cx hlt _ as (by exact Ar.q440) fun i hi h0 hp=>by exact Ar.r12 hi h0 hp
theorem IE {K:Addr→Int}{as:List Addr}(h:AW K 0 as):∀i,i<as.length→K (as.getD 0 0)≤K (as.getD i 0):=by
 intro i
 induction i using Nat.strongRecOn with
 |ind i ih=>
  intro hi
  rcases Nat.eq_zero_or_pos i with rfl|h0
  ·exact Int.le_refl _
  ·exact Int.le_trans (ih ((i-1)/2) (by exact Ar.parS ‹_›) (by exact Ar.par ‹_›)) (h i hi h0 (Nat.zero_le _))
theorem Dy {K:Addr→Int}{as:List Addr}(h:AW K 0 as):∀a∈as,K (as.getD 0 0)≤K a:=fun a ha=>by
 obtain⟨i,hi,e⟩:=List.mem_iff_getElem.mp ha
 have:=IE h i hi
 have e2:as.getD i 0=a:=by simp [hi,e]
 rwa [e2] at this
theorem Cq {K:Addr→Int}{lt:Addr→Addr→Bool}(hlt:∀a b,lt a b=decide (K a<K b)){as:List Addr}{b:Addr}(hne:0<as.length)(h:AW K 0 as):AW K 0 (siftup lt 0 (as.set 0 b))∧(siftup lt 0 (as.set 0 b)).Perm (as.set 0 b):=
 Be hlt (by rw [List.length_set];exact hne) fun i hi h0 hp=>by
  k_extra "052"
  k_extra "01N"
  exact h i hi h0 (Nat.zero_le _)
theorem G6 {K:Addr→Int}{p:List Addr}{b:Addr}(h:AW K 0 (p++ [b])):AW K 0 p:=fun i hi h0 hp=>by
 have:=h i (by rw [List.length_append];exact Ar.r189 hi) h0 hp
 have e:∀j,j<p.length→(p++ [b]).getD j 0=p.getD j 0:=fun j hj=>by simp [List.getElem?_append_left hj]
 rwa [e _ hi,e _ (by exact Ar.par ‹_›)] at this
section
theorem kw_W04_1:True:=by
 k_with "ar"=>((fail_if_success k_extra "oW04");with_reducible first|assumption|exact Ne.symm ‹_›|exact Int.ofNat_lt.mpr ‹_›|exact Nat.zero_le _|exact Int.natCast_nonneg _|exact Ar.q30 ‹_›)
 trivial
section
variable{w:World}{dp un:Nat}{fr:Option (List Env)}{gd:Option (List Code)}{s:Shared}{loose:List Str}{mz:ExcName→Option Value}{mg mb:Str→Option Value}{Q E:Value→Shared→Prop}{hb:Heap}
theorem Bu {d b:Addr}{as:List Addr}{n:Nat}(κ:Addr→List Int)(kb:hb.StaysIn s.heap)(X:(Mine.hd.heap_39 w.params).In hb)(T:Top Mine.hd.view_39 loose mz mg mb hb)
  (hd:dp≤700) (hu:un≤7000) (hd1:s.heap.get? d=some (rl as n)) (hd0:hb.get? d=none) (hne:0<as.length) (hsz:as.length≤1000) (hκ:∀a∈as,a≠d∧Bc s.heap a (κ a)) (hb1:b≠d∧Bc s.heap b (κ b))
  (h:∀h' tk',(∀b o,s.heap.get? b=some o→b≠d→h'.get? b=some o)→h'.get? d=some (rl (siftup (fun a b=>AI (κ a) (κ b)) 0 (as.set 0 b)) n)→Q (.ref (as.getD 0 0)) {s with heap:=h',toks:=tk'}):
  wpAny (model PR w) (AR dp un fr gd) (call (.ref 286) [.ref d,.ref b]) Q E s:=by
 revert w dp un fr gd s loose mz mg mb Q E hb d b as n κ
 as_aux_lemma=>
 intro pick_ w dp un fr gd s loose mz mg mb Q E hb d b as n κ
 intro kb X T hd hu hd1 hd0 hne hsz hκ hb1 h
 k_extra "0D"
 refine' Ag (binds:= [(Str.ofString "heap",.ref d),(Str.ofString "item",.ref b)]) [(d,rl as n)] kb X T ?m ?k6 ?k7 ?k8 ?k9 ?kB ?_ ?c2 ?c3 ?c4 ?c5
 k_extra "04"
 k_extra "00"
 k_extra "0f"
 dsimp only
 k_extra "0g"
 k_fold
 k_extra "0m"
 have hb':Bc g b (κ b):=hb1.2.keep fun o e=>keep b o e (by simp [hb1.1])
 k_steps
 k_extra "0e"
 k_extra "0a"
 k_extra "03"
 refine CD (ps:=0) κ (Fr.keep F5) X' T' (show dp+1≤800 by exact Ar.up ‹_› (by rfl)) (show un+3≤8000 by exact Ar.up ‹_› (by rfl)) (N5 _ (.head _)).1 (N5 _ (.head _)).2.2 (by rw [List.length_set];exact hne) (by rw [List.length_set];assumption) (Et (Aw hκ' hb') F5 (N5 _ (.head _)).2.2) fun h' tk' k' hd'=>?_
 k_extra "05i"
 k_extra "01W"
 clear F5 N5
 k_steps
 exact h _ _ (fun b o e hb=>F6.keep b o (keep b o e (by simp [hb]))) (N6 _ (.head _)).1
theorem FH {d:Addr}{p:List Addr}{b:Addr}{n:Nat}(κ:Addr→List Int)(kb:hb.StaysIn s.heap)(X:(Mine.hd.heap_39 w.params).In hb)(T:Top Mine.hd.view_39 loose mz mg mb hb)
  (hd:dp≤700) (hu:un≤7000) (hd1:s.heap.get? d=some (rl (p++ [b]) n)) (hd0:hb.get? d=none) (hsz:p.length≤900) (hκ:∀a∈p++ [b],a≠d∧Bc s.heap a (κ a))
  (h:∀h' tk' n',(∀b o,s.heap.get? b=some o→b≠d→h'.get? b=some o)→h'.get? d=some (rl (if p= [] then [] else siftup (fun a b=>AI (κ a) (κ b)) 0 (p.set 0 b)) n')→Q (.ref ((p++ [b]).getD 0 0)) {s with heap:=h',toks:=tk'}):
  wpAny (model PR w) (AR dp un fr gd) (call (.ref 279) [.ref d]) Q E s:=by
 revert w dp un fr gd s loose mz mg mb Q E hb d p b n κ
 as_aux_lemma=>
 intro pick_ w dp un fr gd s loose mz mg mb Q E hb d p b n κ
 intro kb X T hd hu hd1 hd0 hsz hκ h
 k_extra "0D"
 refine' Ag (binds:= [(Str.ofString "heap",.ref d)]) [(d,rl (p++ [b]) n)] kb X T ?m ?k6 ?k7 ?k8 ?k9 ?kB ?_ ?c2 ?c3 ?c4 ?c5
 k_extra "04"
 k_extra "00"
 k_extra "0f"
 dsimp only
 k_extra "0g"
 k_fold
 have hκ':∀a∈p++ [b],Bc g a (κ a):=fun a ha=>(hκ a ha).2.keep fun o e=>keep a o e (by simp [(hκ a ha).1])
 k_steps
 ·k_extra "0e"
  k_extra "0a"
  rename 0<_=>hp
  intro clo_ tk
  k_extra "03"
  refine CD (ps:=0) κ (Fr.keep F5) X' T' (show dp+1≤800 by exact Ar.up ‹_› (by rfl)) (show un+3≤8000 by exact Ar.up ‹_› (by rfl)) (N5 _ (.head _)).1 (N5 _ (.head _)).2.2 (by rw [List.length_set];exact hp) (by rw [List.length_set];exact Ar.upS ‹_› (by rfl))
   (Et (Aw (fun a ha=>hκ' a (List.mem_append_left _ ha)) (hκ' b (by simp))) F5 (N5 _ (.head _)).2.2) fun h' tk' k' hd'=>?_
  k_extra "05i"
  k_extra "01W"
  clear F5 N5
  k_steps
  have hp':p≠ []:=by rintro rfl;exact absurd hp (by decide)
  have e1:(p++ [b]).getD 0 0=p.getD 0 0:=by
   cases p with
   |nil=>exact absurd rfl hp'
   |cons a r=>rfl
  show Q (Value.ref (p.getD 0 0)) _
  rw [←e1]
  exact h _ _ _ (fun b o e hb=>F6.keep b o (keep b o e (by simp [hb]))) (by rw [if_neg hp'];exact(N6 _ (.head _)).1)
 ·k_extra "0e"
  k_extra "0a"
  rename ¬0<_=>hp
  intro clo_ tk
  obtain rfl:p= []:=List.eq_nil_of_length_eq_zero (by exact Ar.q386 hp)
  exact h _ _ _ (fun b o e hb=>F5.keep b o (keep b o e (by simp [hb]))) (N5 _ (.head _)).1
theorem kw_W04_e:True:=by
 k_with "oW04"=>skip
 trivial
noncomputable abbrev Bp (d':Addr)(k:Int)(t:Tok)(b:Bool):Obj:={cls:=.ref 194,dict:=some d',slots:= #[some (.int k t),some (.bool b),some (.int 1 411)]}
theorem HB {c d':Addr}{k:Int}{t:Tok}{b:Bool}(kb:hb.StaysIn s.heap)(X:(Mine.hd.heap_39 w.params).In hb)(T:Top Mine.hd.view_39 loose mz mg mb hb)
  (hd:dp≤800) (hc:s.heap.get? c=some (Bp d' k t b)) (hc0:hb.get? c=none)
  (h:∀h' tk',(∀b o,s.heap.get? b=some o→h'.get? b=some o)→Q (.ref c) {s with heap:=h',toks:=tk'}):
  wpAny (model PR w) (AR dp un fr gd) (call (.ref 176) [.ref c]) Q E s:=by
 k_extra "0D"
 refine' Ag (binds:= [(Str.ofString "self",.ref c)]) [(c,Bp d' k t b)] kb X T ?m ?k6 ?k7 ?k8 ?k9 ?kB ?_ ?c2 ?c3 ?c4 ?c5
 (case m=>intro q hq;cases hq with|head=>exact⟨hc,hc0⟩|tail _ hq=>cases hq)
 k_extra "00"
 k_extra "0f"
 dsimp only
 k_fold
 k_steps
 k_extra "0e"
 k_extra "0a"
 refine h _ _ fun b o e=>?_
 by_cases hb:b=c
 ·subst hb
  rw [hc] at e
  cases e
  exact(N5 _ (.head _)).1
 ·exact F5.keep b o (keep b o e (by simp [hb]))
theorem HA {c d':Addr}{k:Int}{t:Tok}{b:Bool}(kb:hb.StaysIn s.heap)(X:(Mine.hd.heap_39 w.params).In hb)(T:Top Mine.hd.view_39 loose mz mg mb hb)
  (hd:dp≤800) (hc:s.heap.get? c=some (Bp d' k t b)) (hd':s.heap.get? d'=some (dictOf [] 0)) (hc0:hb.get? c=none) (hd0:hb.get? d'=none)
  (h:∀h' tk' t' t'',(∀b o,s.heap.get? b=some o→b≠c→h'.get? b=some o)→h'.get? c=some (Bp d' (k+1) t' b)→Q (.int k t'') {s with heap:=h',toks:=tk'}):
  wpAny (model PR w) (AR dp un fr gd) (call (.ref 183) [.ref c]) Q E s:=by
 revert w dp un fr gd s loose mz mg mb Q E hb c d' k t b
 as_aux_lemma=>
 intro pick_ w dp un fr gd s loose mz mg mb Q E hb c d' k t b
 intro kb X T hd hc hd' hc0 hd0 h
 have hne:d'≠c:=by rintro rfl;rw [hc] at hd';cases hd'
 k_extra "0D"
 refine' Ag (binds:= [(Str.ofString "self",.ref c)]) [(c,Bp d' k t b),(d',dictOf [] 0)] kb X T ?m ?k6 ?k7 ?k8 ?k9 ?kB ?_ ?c2 ?c3 ?c4 ?c5
 (case m=>intro q hq;cases hq with|head=>exact⟨hc,hc0⟩|tail _ hq=>cases hq with|head=>exact⟨hd',hd0⟩|tail _ hq=>cases hq)
 k_extra "00"
 k_extra "0f"
 dsimp only
 k_extra "0g"
 k_fold
 k_steps
 k_extra "0e"
 k_extra "0a"
 intro clo_ tk p_ N5
 refine h _ _ _ _ (fun b o e hb=>?_) (N5 _ (.head _)).1
 intro clo_ b o p_ e hb
 by_cases hb2:b=d'
 ·subst hb2
  rw [hd'] at e
  cases e
  exact(N5 _ mm1).1
 ·exact F5.keep b o (keep b o e (by simp [hb,hb2]))
end
end
section
section
variable{w:World}{dp un:Nat}{fr:Option (List Env)}{gd:Option (List Code)}{s:Shared}{loose:List Str}{mz:ExcName→Option Value}{mg mb:Str→Option Value}{hb:Heap}
theorem DQ {c d':Addr}{k:Int}{b:Bool}(X:(Mine.hd.heap_39 w.params).In hb)(T:Top Mine.hd.view_39 loose mz mg mb hb)
  (hd:dp≤800) (hc0:hb.get? c=none) (hd0:hb.get? d'=none):
  Draws PR w (AR dp un fr gd) (.ref c) [c] (fun h=>hb.StaysIn h∧h.get? d'=some (dictOf [] 0)∧∃t,h.get? c=some (Bp d' k t b))
   (fun v h'=>(∃t,v= .int k t)∧∃t,h'.get? c=some (Bp d' (k+1) t b)):=by
 rintro s Q E ⟨kb,hd',t,hc⟩ h
 k_extra "03K"
 refine wpAny_bind (special_fn (K:=Mine.hd.heap_39 w.params) (f:=183) (C:=194) (name:= "__next__") (args:= []) (X.keeps kb) (od:=some (dictOf [] 0)) ⟨hc,rfl,rfl,hd'⟩ (by k_is) (beq_iff_eq.mp (show isFn (Mine.hd.heap_39 w.params) (.ref 183)=true by k_is)) ?_)
 refine HA kb X T hd hc hd' hc0 hd0 fun h' tk' t' t'' k1 k2=>?_
 refine wpAny_pure (h _ _ _ ⟨⟨_,rfl⟩,_,k2⟩ fun b o hb e=>k1 b o e fun q=>hb (by rw [q];exact .head _))
structure CA (vs:List Value) (z li c TI TO d d':Addr) (b:Bool) (h:Heap) (k:Nat):Prop where
 pli:h.IsListIter li d k
 pl:h.IsList d vs.toArray
 pc:∃t,h.get? c=some (Bp d' k t b)
 pd:h.get? d'=some (dictOf [] 0)
 pti:h.get? TI=some (AT (.ref li) (.ref c))
 pto:∃c1 c2,h.get? TO=some (AT c1 c2)
 pne:TI≠TO
 pz:(∃f1,h.get? z=some (BO .none f1 TI TO))∨∃(a:Addr) (f1:Bool) (oa:Obj),h.get? z=some (BO (rawInt a) f1 TI TO)∧h.get? a=some oa
section
variable{vs:List Value}{z li c TI TO d d':Addr}{b:Bool}{k:Nat}
theorem CA.zz {h:Heap}(S:CA vs z li c TI TO d d' b h k):∃o,h.get? z=some o∧o.cls= .type "zip":=by
 rcases S.pz with⟨f1,e⟩|⟨a,f1,oa,e,_⟩
 ·exact⟨_,e,rfl⟩
 ·exact⟨_,e,rfl⟩
structure IX (z li c TI TO d d':Addr):Prop where
 liz:li≠z
 cz:c≠z
 tiz:TI≠z
 toz:TO≠z
 dz:d≠z
 dz':d'≠z
 cli:c≠li
 tili:TI≠li
 toli:TO≠li
 dli:d≠li
 dli':d'≠li
 tic:TI≠c
 toc:TO≠c
 dc:d≠c
 dc':d'≠c
 dto:d≠TO
 dto':d'≠TO
theorem CA.apart {h:Heap}(S:CA vs z li c TI TO d d' b h k):IX z li c TI TO d d':=by
 k_extra "05s"
 obtain⟨oli,eli,cli,_⟩:=S.pli
 obtain⟨ol,el,cl,_⟩:=S.pl
 obtain⟨t,ec⟩:=S.pc
 obtain⟨c1,c2,eto⟩:=S.pto
 have ed:=S.pd
 have eti:=S.pti
 constructor<;>first
  |exact ocl eli ez (by first|exact cli|exact cz) (by first|exact cli|exact cz) rfl
  |exact ocl ec ez rfl cz rfl
  |exact ocl eti ez rfl cz rfl
  |exact ocl eto ez rfl cz rfl
  |exact ocl el ez (by first|exact cl|exact cz) (by first|exact cl|exact cz) rfl
  |exact ocl ed ez rfl cz rfl
  |exact ocl ec eli rfl cli rfl
  |exact ocl eti eli rfl cli rfl
  |exact ocl eto eli rfl cli rfl
  |exact ocl el eli (by first|exact cl|exact cli) (by first|exact cl|exact cli) rfl
  |exact ocl ed eli rfl cli rfl
  |exact ocl eti ec rfl rfl rfl
  |exact ocl eto ec rfl rfl rfl
  |exact ocl el ec cl rfl rfl
  |exact ocl ed ec rfl rfl rfl
  |exact ocl el eto cl rfl rfl
  |exact ocl ed eto rfl rfl rfl
theorem IZ {x:Value}{Q:Option Value→Shared→Prop}{E:Value→Shared→Prop}(X:(Mine.hd.heap_39 w.params).In hb)(T:Top Mine.hd.view_39 loose mz mg mb hb)(hd:dp≤800)(hc0:hb.get? c=none)(hd0:hb.get? d'=none)(hz0:hb.get? z=none)(hli0:hb.get? li=none)(hto0:hb.get? TO=none)
  (kb:hb.StaysIn s.heap) (S:CA vs z li c TI TO d d' b s.heap k) (hx:vs[k]?=some x)
  (h:∀T h' tk t,CA vs z li c TI TO d d' b h' (k+1)→h'.get? T=some (AT x (.int k t))→T≠z→T≠li→T≠c→T≠TO→s.heap.get? T=none→(∀b o,b≠z→b≠li→b≠c→b≠TO→s.heap.get? b=some o→h'.get? b=some o)→Q (some (.ref T)) {s with heap:=h',toks:=tk}):
  wpAny (model PR w) (AR dp un fr gd) (pyNext (.ref z)) Q E s:=by
 revert w dp un fr gd s loose mz mg mb hb vs z li c TI TO d d' b k x Q E
 as_aux_lemma=>
 intro pick_ w dp un fr gd s loose mz mg mb hb vs z li c TI TO d d' b k x Q E
 intro X T hd hc0 hd0 hz0 hli0 hto0 kb S hx h
 have D:=S.apart
 k_extra "05s"
 k_extra "03C"
 have hx':vs.toArray[k]?=some x:=by simpa using hx
 have stays:∀h1:Heap,(∀b o,b≠z→b≠li→b≠c→b≠TO→s.heap.get? b=some o→h1.get? b=some o)→hb.StaysIn h1:=fun h1 k1 b o e=>
  k1 b o (fun q=>by rw [q,hz0] at e;cases e) (fun q=>by rw [q,hli0] at e;cases e) (fun q=>by rw [q,hc0] at e;cases e) (fun q=>by rw [q,hto0] at e;cases e) (kb b o e)
 unfold pyNext
 intro clo_ oz p_ ez cz
 k_extra "06"
 rcases S.pz with⟨f1,ez⟩|⟨a,f1,oa,ez,ea⟩
 ·intro clo_ f1 p_ ez
  obtain⟨c1,c2,eto⟩:=S.pto
  intro clo_ c1 c2 p_ eto
  refine Ck (wr1:= [li]) (wr2:= [c]) ez S.pti eto D.toz (Cg (l:=d) hx') (DQ (k:=k) (b:=b) X T hd hc0 hd0) ?_ ?_ ?_ ?_ ?_ ?_ ?_
  ·intro h1 k1
   k_extra "01S"
  ·intro h1 h2 v q1 k2 k1
   intro clo_ h1 h2 v p_ q1 k2 k1
   obtain⟨t,ec⟩:=S.pc
   exact⟨stays _ fun b o b1 b2 b3 b4 e=>k1 b o b1 b4 (by simp [b2]) e,k1 _ _ D.dz' D.dto' (by simp [D.dli']) S.pd,t,k1 _ _ D.cz D.toc.symm (by simp [D.cli]) ec⟩
  ·simp [D.liz.symm]
  ·simp [D.cz.symm]
  ·simp [D.toli]
  ·simp [D.toc]
  ·rintro x' y h1 h2 h3 h4 h5 tk ⟨rfl,q1⟩ k12 k23 ⟨⟨t,rfl⟩,t',q2⟩ k34 eT k4 k5 ez5 eT5
   k_extra "0W"
   have el:h4.IsListIter li d (k+1):=IsListIter.keep' (IsListIter.keep' (IsListIter.keep' q1 fun o e=>k12 _ o D.toli.symm e) fun o e=>k23 _ o (by simp [D.cli.symm]) e) fun o e=>k34 _ o D.toli.symm e
   have ec:h4.get? c=some (Bp d' (k+1) t' b):=k34 _ _ D.toc.symm q2
   have K5:∀b o,b≠z→b≠li→b≠c→b≠TO→s.heap.get? b=some o→h5.get? b=some o:=fun b o b1 b2 b3 b4 e=>k5 b o b1 (k4 b o b1 b4 (by simp [b2]) (by simp [b3]) e)
   intro clo_ x' h1 h2 h3 h4 h5 tk p_ q1 hx h hx' k12 k23 d_ t t' p_ q2 k34 eT k4 k5 ez5 eT5 hsz el ec K5
   refine wpAny_pure (h _ _ _ t ⟨IsListIter.keep' el fun o e=>k5 _ o D.liz e,IsList.keep' S.pl fun o e=>K5 _ o D.dz D.dli D.dc D.dto e,⟨t',k5 _ _ D.cz ec⟩,K5 _ _ D.dz' D.dli' D.dc' D.dto' S.pd,K5 _ _ D.tiz D.tili D.tic S.pne S.pti,⟨_,_,k5 _ _ D.toz eT⟩,S.pne,.inr ⟨_,_,_,ez5,eT5⟩⟩ eT5 ?_ ?_ ?_ ?_ ?_ K5)
   ·exact ocl eT5 ez5 rfl rfl rfl
   ·obtain⟨o,e,_⟩:=el;exact(hsz _ _ e).symm
   ·exact(hsz _ _ ec).symm
   ·exact(hsz _ _ eT).symm
   ·refine Cf fun o e=>?_
    have n1:h4.objs.size≠z:=ocl eT5 ez5 rfl rfl rfl
    k_extra "032"
    exact hsz _ _ (k4 _ o n1 (hsz _ _ eT).symm (by simp [n2]) (by simp [(hsz _ _ ec).symm]) e) rfl
 ·intro clo_ a f1 oa p_ ez ea
  refine Es (wr1:= [li]) (wr2:= [c]) ez S.pti ea (Cg (l:=d) hx') (DQ (k:=k) (b:=b) X T hd hc0 hd0) ?_ ?_ ?_ ?_ ?_
  ·intro h1 k1
   k_extra "01S"
  ·intro h1 v q1 k1
   intro clo_ h1 v p_ q1 k1
   obtain⟨t,ec⟩:=S.pc
   exact⟨stays _ fun b o b1 b2 b3 b4 e=>k1 b o b1 (by simp [b2]) e,k1 _ _ D.dz' (by simp [D.dli']) S.pd,t,k1 _ _ D.cz (by simp [D.cli]) ec⟩
  ·simp [D.liz.symm]
  ·simp [D.cz.symm]
  ·rintro x' y h1 h4 tk ⟨rfl,q1⟩ k14 ⟨⟨t,rfl⟩,t',ec⟩ k4 ez4
   intro clo_ x' h1 h4 tk p_ q1 hx h hx' k14 d_ t t' p_ ec k4 ez4
   obtain⟨c1,c2,eto⟩:=S.pto
   k_extra "0W"
   have el:h4.IsListIter li d (k+1):=IsListIter.keep' q1 fun o e=>k14 _ o (by simp [D.cli.symm]) e
   have p:∀b o,h4.get? b=some o→(h4.push (AT x' (.int k t))).get? b=some o:=fun b o e=>Heap.get?_push_of_some _ e
   have K4:∀b o,b≠z→b≠li→b≠c→s.heap.get? b=some o→h4.get? b=some o:=fun b o b1 b2 b3 e=>k4 b o b1 (by simp [b2]) (by simp [b3]) e
   have eT:=K4 _ _ D.toz D.toli D.toc eto
   have eT5:(h4.push (AT x' (.int k t))).get? h4.objs.size=some (AT x' (.int k t)):=Heap.get?_push_size _ rfl
   have eza:∃oa,(h4.push (AT x' (.int k t))).get? a=some oa:=by
    by_cases a1:a=z
    ·rw [a1];exact⟨_,p _ _ ez4⟩
    ·by_cases a2:a=li
     ·rw [a2];obtain⟨o,e,_⟩:=el;exact⟨_,p _ _ e⟩
     ·by_cases a3:a=c
      ·rw [a3];exact⟨_,p _ _ ec⟩
      ·exact⟨_,p _ _ (K4 _ _ a1 a2 a3 ea)⟩
   intro clo_ c1 c2 p_ eto eT
   obtain⟨oa',ea'⟩:=eza
   intro clo_ oa' p_ ea'
   refine wpAny_pure (h _ _ _ t ⟨IsListIter.keep' el fun o e=>p _ _ e,IsList.keep' S.pl fun o e=>p _ _ (K4 _ o D.dz D.dli D.dc e),⟨t',p _ _ ec⟩,p _ _ (K4 _ _ D.dz' D.dli' D.dc' S.pd),p _ _ (K4 _ _ D.tiz D.tili D.tic S.pti),⟨_,_,p _ _ eT⟩,S.pne,.inr ⟨_,_,_,p _ _ ez4,ea'⟩⟩ eT5 ?_ ?_ ?_ ?_ ?_ fun b o b1 b2 b3 _ e=>p _ _ (K4 b o b1 b2 b3 e))
   ·exact(hsz _ _ ez4).symm
   ·obtain⟨o,e,_⟩:=el;exact(hsz _ _ e).symm
   ·exact(hsz _ _ ec).symm
   ·exact(hsz _ _ eT).symm
   ·refine Cf fun o e=>?_
    k_extra "032"
    exact hsz _ _ (K4 _ o (hsz _ _ ez4).symm n2 (hsz _ _ ec).symm e) rfl
theorem Ia {Q:Option Value→Shared→Prop}{E:Value→Shared→Prop}(S:CA vs z li c TI TO d d' b s.heap k)(hx:vs[k]?=none)
  (h:∀h' tk,(∀b o,b≠z→b≠li→s.heap.get? b=some o→h'.get? b=some o)→Q none {s with heap:=h',toks:=tk}):
  wpAny (model PR w) (AR dp un fr gd) (pyNext (.ref z)) Q E s:=by
 have D:=S.apart
 k_extra "05s"
 k_extra "03C"
 have hx':vs.toArray[k]?=none:=by simpa using hx
 have fin:∀h' tk e,(∃o,h'.get? e=some o∧o.cls= .type "StopIteration")→(∀b o,b≠z→b∉ [li]→s.heap.get? b=some o→h'.get? b=some o)→
   wpAny (model PR w) (AR dp un fr gd) (isInstance (.ref e) (.type "StopIteration")>>=fun x=>if x=true then pure none else throw (.ref e)) Q E {s with heap:=h',toks:=tk}:=fun h' tk e he k1=>by
  obtain⟨o,ho,hc⟩:=he
  k_extra "0q"
  exact wpAny_pure (h _ _ fun b o b1 b2 e=>k1 b o b1 (by simp [b2]) e)
 unfold pyNext
 k_extra "06"
 rcases S.pz with⟨f1,ez⟩|⟨a,f1,oa,ez,ea⟩
 ·exact CX ez S.pti (Dz (l:=d) rfl hx') (by simp [D.liz.symm]) (fun h1 k1=>⟨IsListIter.keep' S.pli fun o e=>k1 _ o D.liz e,IsList.keep' S.pl fun o e=>k1 _ o D.dz e⟩) fin
 ·exact EQ ez S.pti ea (Dz (l:=d) rfl hx') (fun h1 k1=>⟨IsListIter.keep' S.pli fun o e=>k1 _ o D.liz e,IsList.keep' S.pl fun o e=>k1 _ o D.dz e⟩) fin
end
end
end
section
section
noncomputable def pairOf (h:Heap)(a:Addr):Int×Int:=match h.get? a with
 |some o=>(match o.data with
  |.seq xs _=>(numOf (xs.getD 0 .none),numOf (xs.getD 1 .none))
  |_=>(0,0))
 |none=>(0,0)
theorem Au.pairOf {h:Heap}{a:Addr}{p:Int×Int}(x:Au h a p):pairOf h a=p:=by
 obtain⟨t,u,n,e⟩:=x
 unfold Mine.pairOf
 rw [e]
 rfl
theorem DO {h h':Heap}{a:Addr}(e:h'.get? a=h.get? a):pairOf h' a=pairOf h a:=by unfold Mine.pairOf;rw [e]
noncomputable def Bi (h:Heap)(as:List Addr)(ps:List (Int×Int)):Prop:=(∀x∈as,Au h x (pairOf h x))∧as.map (pairOf h)=ps
theorem Bi.keep {h h':Heap}{as:List Addr}{ps:List (Int×Int)}(x:Bi h as ps)(k:∀a∈as,∀o,h.get? a=some o→h'.get? a=some o):Bi h' as ps:=by
 have e:∀a∈as,pairOf h' a=pairOf h a:=fun a ha=>by
  obtain⟨t,u,n,e⟩:=x.1 a ha
  exact DO ((k a ha _ e).trans e.symm)
 refine⟨fun a ha=>?_,?_⟩
 ·rw [e a ha]
  exact(x.1 a ha).keep (k a ha)
 ·rw [←x.2]
  exact List.map_congr_left e
theorem Bi.snoc {h:Heap}{as:List Addr}{ps:List (Int×Int)}{a:Addr}{p:Int×Int}(x:Bi h as ps)(y:Au h a p):Bi h (as++ [a]) (ps++ [p]):=by
 refine⟨fun b hb=>?_,by rw [List.map_append,x.2];simp [y.pairOf]⟩
 rcases List.mem_append.mp hb with hb|hb
 ·exact x.1 b hb
 ·obtain rfl:b=a:=by simpa using hb
  rw [y.pairOf];exact y
noncomputable def Aa (ns:List Int):List (Int×Int):=ns.zipIdx.map fun p=>(p.1,(p.2:Int))
theorem Ab (ns:List Int):(Aa ns).length=ns.length:=by simp [Aa]
theorem Ba {ns:List Int}{k:Nat}(h:k<ns.length):(Aa ns)[k]?=some (ns[k],(k:Int)):=by simp [Aa,h]
theorem Fm {ns:List Int}{k:Nat}(h:k<ns.length):(Aa ns).take (k+1)=(Aa ns).take k++ [(ns[k],(k:Int))]:=by
 rw [List.take_add_one,Ba h];rfl
theorem BZ {ns:List Int}{p:Int×Int}(h:p∈Aa ns):0≤p.2∧p.2<ns.length:=by
 obtain⟨⟨x,i⟩,hq,rfl⟩:=List.mem_map.mp h
 have:=List.snd_lt_of_mem_zipIdx hq
 exact⟨Int.natCast_nonneg _,by simp at this⊢;assumption⟩
theorem E4 {ns:List Int}(h64:ns.length<64):((Aa ns).map pk).Nodup:=by
 have h2:((Aa ns).map pk).Pairwise (· ≠ ·):=by
  rw [List.pairwise_map,List.pairwise_iff_getElem]
  intro i j hi hj hij e
  k_extra "043"
  k_extra "044"
  k_extra "0X"
  k_extra "0Y"
  rw [ei,ej] at e
  unfold pk at e
  dsimp only at e
  omega
 exact h2
theorem CH {vs:List Value}{ns:List Int}(h:IntsAre vs ns):∀k,(hk:k<ns.length)→∃t,vs[k]?=some (.int ns[k] t):=by
 induction h with
 |nil=>exact fun k h=>absurd h (Nat.not_lt_zero _)
 |cons n t r ih=>
  refine fun k h=>?_
  cases k with
  |zero=>exact⟨t,rfl⟩
  |succ k=>exact ih k (Nat.lt_of_succ_lt_succ h)
theorem AC {vs:List Value}{ns:List Int}(h:IntsAre vs ns):vs.length=ns.length:=h.length
variable{w:World}{dp un:Nat}{fr:Option (List Env)}{gd:Option (List Code)}{s:Shared}{loose:List Str}{mz:ExcName→Option Value}{mg mb:Str→Option Value}{hb:Heap}{vs:List Value}{ns:List Int}{z li c TI TO d d':Addr}{b:Bool}{k:Nat}
theorem Gd {Q E:Value→Shared→Prop}(X:(Mine.hd.heap_39 w.params).In hb)(T:Top Mine.hd.view_39 loose mz mg mb hb)(hd:dp≤800)(hc0:hb.get? c=none)(hd0:hb.get? d'=none)(hz0:hb.get? z=none)(hli0:hb.get? li=none)(hto0:hb.get? TO=none)
  (kb:hb.StaysIn s.heap) (S:CA vs z li c TI TO d d' b s.heap 0) (hI:IntsAre vs ns) (h64:ns.length<64)
  (h:∀D as h' tk n,(as.map (pairOf h')).Perm (Aa ns)→(∀x∈as,Au h' x (pairOf h' x))→(∀x∈as,∃v w n,v∈vs∧h'.get? x=some (seqObj "tuple" #[v,w] n))→(as.map (pairOf h')).Pairwise (fun p q=>pk p<pk q)→(∀x∈as,s.heap.get? x=none)→(∀o,s.heap.get? D=some o→D=z∨D=li)→h'.get? D=some (rl as n)→
   (∀b o,b≠z→b≠li→b≠c→b≠TO→s.heap.get? b=some o→h'.get? b=some o)→Q (.ref D) {s with heap:=h',toks:=tk}):
  wpAny (model PR w) (AR dp un fr gd) (call (.builtin "sorted") [.ref z] [(Str.ofString "reverse",.bool false)]) Q E s:=by
 revert w dp un fr gd s loose mz mg mb hb vs ns z li c TI TO d d' b Q E
 as_aux_lemma=>
 intro pick_ w dp un fr gd s loose mz mg mb hb vs ns z li c TI TO d d' b Q E
 intro X T hd hc0 hd0 hz0 hli0 hto0 kb S hI h64 h
 have hvl:vs.length=ns.length:=AC hI
 have D:=S.apart
 k_extra "05s"
 k_extra "03C"
 have hlt:∀{a o},s.heap.get? a=some o→a<s.heap.objs.size:=fun e=>Heap.lt_size e
 have lz:=hlt ez
 have lli:li<s.heap.objs.size:=by obtain⟨o,e,_⟩:=S.pli;exact hlt e
 have lc:c<s.heap.objs.size:=by obtain⟨t,e⟩:=S.pc;exact hlt e
 have lto:TO<s.heap.objs.size:=by obtain⟨c1,c2,e⟩:=S.pto;exact hlt e
 have lti:=hlt S.pti
 have ld:d<s.heap.objs.size:=by obtain⟨o,e,_⟩:=S.pl;exact hlt e
 have ld':=hlt S.pd
 have zkeep:∀{k:Nat} {h1 h2:Heap},CA vs z li c TI TO d d' b h1 k→(∀b o,b≠s.heap.objs.size→h1.get? b=some o→h2.get? b=some o)→(∀a o,h1.get? a=some o→∃o',h2.get? a=some o')→CA vs z li c TI TO d d' b h2 k:=fun{k h1 h2} Z k12 al=>by
  obtain⟨p1,p2,⟨t,p3⟩,p4,p5,⟨c1,c2,p6⟩,p7,p8⟩:=Z
  refine⟨IsListIter.keep' p1 fun o e=>k12 _ o (Nat.ne_of_lt lli) e,IsList.keep' p2 fun o e=>k12 _ o (Nat.ne_of_lt ld) e,⟨t,k12 _ _ (Nat.ne_of_lt lc) p3⟩,k12 _ _ (Nat.ne_of_lt ld') p4,k12 _ _ (Nat.ne_of_lt lti) p5,⟨c1,c2,k12 _ _ (Nat.ne_of_lt lto) p6⟩,p7,?_⟩
  rcases p8 with⟨f1,e⟩|⟨a,f1,oa,e,ea⟩
  ·exact .inl ⟨f1,k12 _ _ (Nat.ne_of_lt lz) e⟩
  ·obtain⟨o',eo⟩:=al _ _ ea
   exact .inr ⟨a,f1,o',k12 _ _ (Nat.ne_of_lt lz) e,eo⟩
 intro clo_ oz p_ ez cz
 refine Ex ?_
 refine IQ (T:=.type "zip") (n₀:=vs.length) (fun n acc s₁=>Ex4 fun k as h1 tk1=>KQ (s₁={s with heap:=h1,toks:=tk1}) (n+k=vs.length) (CA vs z li c TI TO d d' b h1 k) (acc=as.map Value.ref) (Bi h1 as ((Aa ns).take k)) ((∀x∈as,∃v w n,v∈vs∧h1.get? x=some (seqObj "tuple" #[v,w] n))) ((∀x∈as,x≠z∧x≠li∧x≠c∧x≠TO∧x≠s.heap.objs.size∧s.heap.get? x=none)) ((∃o,h1.get? s.heap.objs.size=some o)) (∀b o,b≠z→b≠li→b≠c→b≠TO→s.heap.get? b=some o→h1.get? b=some o))
  ?_ rfl rfl ?_ ?_ lz ?_ ?_
 ·exact(Looks.ld ez).andThen (Looks.of_pure (by rw [cz]))
 ·refine((Looks.ld (part:=none) ez).andThen (Looks.of_pure (by rw [cz])):Looks (model PR w) s.heap (typeOf (.ref z)) (.type "zip")).andThen (Looks.of_pure ?_)
  k_extra "04A"
 ·refine((Looks.ld (part:=none) ez).andThen (Looks.of_pure (by rw [cz])):Looks (model PR w) s.heap (typeOf (.ref z)) (.type "zip")).andThen (Looks.of_pure ?_)
  k_extra "04A"
 ·refine wpAny_mono (wpAny_pyIter_slot (Q:=fun it s₂=>it= .ref z∧s₂={s with heap:=s.heap.push (listOf #[] 0)}) (s:={s with heap:=s.heap.push (listOf #[] 0)}) (show Shared.TypeIs _ (.ref z) "zip" from⟨_,Heap.get?_push_of_some _ ez,cz⟩) F.slot_zip_iter (wpAny_call_entry F.slot_zip_iter ⟨_,Heap.get?_push_of_some _ ez,cz⟩ F.entry_zip_iter ?_ (F.args_zip_iter_1 _))) ?_ fun _ _ e=>e
  ·show wpAny _ _ (ret (.ref z)) _ _ _
   exact wpAny_pure ⟨_,rfl,"zip",_,⟨_,Heap.get?_push_of_some _ ez,cz⟩,F.slot_zip_next.lookup,rfl,rfl⟩
  ·rintro it s₂ ⟨rfl,rfl⟩
   refine⟨rfl,fun b o e=>e,fun h' k' hS=>?_⟩
   intro clo_ h' p_ k' hS
   obtain⟨cS,hS⟩:=hS
   intro clo_ cS p_ hS
   refine⟨0,[],h',s.toks,rfl,by omega,?_,rfl,⟨fun _ hx=>(nomatch hx),rfl⟩,fun _ hx=>(nomatch hx),fun _ hx=>(nomatch hx),⟨_,hS⟩,fun b o _ _ _ _ e=>k' b o (Nat.ne_of_lt (hlt e)) (Heap.get?_push_of_some _ e)⟩
   exact zkeep (h1:=s.heap) S (fun b o hb e=>k' b o hb (Heap.get?_push_of_some _ e)) fun a o e=>⟨o,k' a o (Nat.ne_of_lt (hlt e)) (Heap.get?_push_of_some _ e)⟩
 ·rintro n acc s₁ ⟨k,as,h1,tk1,rfl,hn,Z,rfl,hP,hV,hx,⟨oS,hS⟩,kk⟩
  have hal:as.length≤ns.length:=by
   have e:=congrArg List.length hP.2
   rw [List.length_map,List.length_take,Ab] at e
   exact e▸Nat.min_le_right _ _
  intro clo_ n k as h1 tk1 p_ hn Z hP hV hx kk d_ oS p_ hS hal
  refine⟨by rw [List.length_map];exact Nat.le_trans hal (Nat.le_trans (Nat.le_of_lt h64) (by decide)),?_⟩
  have kb1:hb.StaysIn h1:=fun b o e=>kk b o (fun q=>by rw [q,hz0] at e;cases e) (fun q=>by rw [q,hli0] at e;cases e) (fun q=>by rw [q,hc0] at e;cases e) (fun q=>by rw [q,hto0] at e;cases e) (kb b o e)
  have notS:s.heap.objs.size≠z∧s.heap.objs.size≠li∧s.heap.objs.size≠c∧s.heap.objs.size≠TO:=⟨Nat.ne_of_gt lz,Nat.ne_of_gt lli,Nat.ne_of_gt lc,Nat.ne_of_gt lto⟩
  by_cases hk:k<ns.length
  ·obtain⟨t0,hv⟩:=CH hI k hk
   intro clo_ t0 p_ hv
   refine IZ (s:={s with heap:=h1,toks:=tk1}) X T hd hc0 hd0 hz0 hli0 hto0 kb1 Z hv fun U h2 tk2 t Z2 eU u1 u2 u3 u4 u5 k2=>?_
   intro clo_ U h2 tk2 t p_ Z2 eU u1 u2 u3 u4 u5 k2
   refine⟨fun o e=>k2 _ o notS.1 notS.2.1 notS.2.2.1 notS.2.2.2 e,n-1,by exact Ar.cdQP ‹_› ‹_› ‹_›,fun h' k' hS'=>?_⟩
   intro clo_ h' p_ k' hS'
   obtain⟨cS,hS'⟩:=hS'
   have uS:U≠s.heap.objs.size:=fun q=>by rw [q] at u5;rw [u5] at hS;cases hS
   intro clo_ cS p_ hS'
   refine⟨k+1,as++ [U],h',tk2,rfl,by exact Ar.cdQ ‹_› ‹_› ‹_›,?_,by simp,?_,?_,?_,⟨_,hS'⟩,fun b o b1 b2 b3 b4 e=>k' b o (Nat.ne_of_lt (hlt e)) (k2 b o b1 b2 b3 b4 (kk b o b1 b2 b3 b4 e))⟩
   ·refine zkeep Z2 k' fun a o e=>?_
    intro clo_ a o p_ e
    by_cases ha:a=s.heap.objs.size
    ·rw [ha];exact⟨_,hS'⟩
    ·exact⟨_,k' _ _ ha e⟩
   ·rw [Fm hk]
    refine Bi.snoc (hP.keep fun a ha o e=>k' _ o (hx a ha).2.2.2.2.1 (k2 _ o (hx a ha).1 (hx a ha).2.1 (hx a ha).2.2.1 (hx a ha).2.2.2.1 e)) ⟨t0,t,0,k' _ _ uS eU⟩
   ·intro x hx'
    intro clo_ x p_ hx'
    rcases List.mem_append.mp hx' with hx'|hx'
    ·obtain⟨v,w',n',hv',e⟩:=hV x hx'
     exact⟨v,w',n',hv',k' _ _ (hx x hx').2.2.2.2.1 (k2 _ _ (hx x hx').1 (hx x hx').2.1 (hx x hx').2.2.1 (hx x hx').2.2.2.1 e)⟩
    ·obtain rfl:x=U:=by simpa using hx'
     exact⟨_,_,0,List.mem_of_getElem? hv,k' _ _ uS eU⟩
   ·intro x hx'
    intro clo_ x p_ hx'
    rcases List.mem_append.mp hx' with hx'|hx'
    ·exact hx x hx'
    ·obtain rfl:x=U:=by simpa using hx'
     refine⟨u1,u2,u3,u4,uS,?_⟩
     refine Cf fun o e=>?_
     rw [kk x o u1 u2 u3 u4 e] at u5
     cases u5
  ·refine Ia (s:={s with heap:=h1,toks:=tk1}) Z (by simp [hvl];exact Nat.not_lt.mp hk) fun h2 tk2 k2=>?_
   have hk':k=ns.length:=by omega
   subst hk'
   rw [List.take_of_length_le (by rw [Ab];exact Nat.le_refl _)] at hP
   intro clo_ h2 tk2 p_ k2
   refine⟨fun o e=>k2 _ o notS.1 notS.2.1 e,as,pairOf h2,rfl,by exact Nat.lt_of_le_of_lt ‹_› ‹_›,?_,?_,?_⟩
   ·intro x hx'
    k_extra "01F"
    have m:pairOf h2 x∈Aa ns:=by rw [←e.2];exact List.mem_map_of_mem hx'
    have:=BZ m
    exact⟨e.1 x hx',by exact Int.le_trans (by decide) this.1,by exact Int.lt_of_lt_of_le this.2 (Int.le_of_lt (Ar.zupL h64 rfl))⟩
   ·k_extra "01F"
    have e2:(as.map fun x=>pk (pairOf h2 x))=(Aa ns).map pk:=by rw [←e.2,List.map_map];rfl
    rw [e2]
    exact E4 h64
   ·intro as' D' h3 c3 hp hw k3 hD hD3
    k_extra "01F"
    have e3:=e.keep (h':=h3) fun a ha o e=>k3 _ o e
    have e4:∀x∈as',pairOf h3 x=pairOf h2 x:=fun x hx'=>by
     obtain⟨t,u,n,q⟩:=e.1 x (hp.mem_iff.mp hx')
     exact DO ((k3 _ _ q).trans q.symm)
    intro clo_ as' D' h3 c3 p_ hp hw k3 hD hD3 e3 e4
    refine h D' as' h3 tk2 c3 ?_ (fun x hx'=>e3.1 x (hp.mem_iff.mp hx')) (fun x hx'=>?_) ?_ (fun x hx'=>(hx x (hp.mem_iff.mp hx')).2.2.2.2.2) ?_ hD3 fun b o b1 b2 b3 b4 q=>k3 b o (k2 b o b1 b2 (kk b o b1 b2 b3 b4 q))
    ·rw [←e3.2];exact hp.map _
    ·intro clo_ x p_ hx'
     obtain⟨v,w',n',hv',e⟩:=hV x (hp.mem_iff.mp hx')
     have hx2:=hx x (hp.mem_iff.mp hx')
     exact⟨v,w',n',hv',k3 _ _ (k2 _ _ hx2.1 hx2.2.1 e)⟩
    ·rw [List.pairwise_map]
     refine hw.imp_of_mem fun{x y} hx1 hy1 q=>?_
     rw [e4 x hx1,e4 y hy1];exact q
    ·intro o q
     intro clo_ o p_ q
     by_cases q1:D'=z
     ·exact .inl q1
     ·by_cases q2:D'=li
      ·exact .inr q2
      ·exfalso
       have al:∃o,h2.get? D'=some o:=by
        by_cases q3:D'=c
        ·obtain⟨t,e⟩:=Z.pc;rw [q3];exact⟨_,k2 _ _ D.cz D.cli e⟩
        ·by_cases q4:D'=TO
         ·obtain⟨c1,c2,e⟩:=Z.pto;rw [q4];exact⟨_,k2 _ _ D.toz D.toli e⟩
         ·exact⟨_,k2 _ _ q1 q2 (kk _ _ q1 q2 q3 q4 q)⟩
       obtain⟨o',e'⟩:=al
       rw [hD] at e'
       cases e'
end
end
noncomputable def rk2 (st:Int)(lo eq:Nat):Int:=2*(st-1)+2*lo+eq+1
theorem Gy {κ:Addr→Int}{as:List Addr}{p q:Nat}{a0:Addr}(hs:as.Pairwise fun x y=>κ x≤κ y)(hp:as[p]?=some a0)(hpq:p<q)(hq:q≤as.length)(h1:∀i c,i<p→as[i]?=some c→κ c≠κ a0)
  (h2:∀i a,p≤i→i<q→as[i]?=some a→κ a=κ a0) (h3:∀a,as[q]?=some a→κ a≠κ a0):as.countP (fun c=>decide (κ c<κ a0))=p∧as.countP (fun c=>decide (κ c=κ a0))=q-p:=by
 have hpl:p<as.length:=by exact Nat.lt_of_lt_of_le ‹_› ‹_›
 have ep:as[p]=a0:=by rw [List.getElem?_eq_getElem hpl] at hp;exact Option.some.inj hp
 rw [List.pairwise_iff_getElem] at hs
 have A:∀c∈as.take p,κ c<κ a0:=fun c hc=>by
  k_extra "03r"
  rw [List.getElem_take]
  have hi':i<p:=by rw [List.length_take] at hi;exact Ar.q292 hpq hq hi
  have x:=hs i p (by exact Nat.lt_trans ‹_› ‹_›) hpl hi'
  have y:=h1 i _ hi' (List.getElem?_eq_getElem (by exact Nat.lt_trans ‹_› ‹_›))
  rw [ep] at x
  omega
 have B:∀c∈(as.drop p).take (q-p),κ c=κ a0:=fun c hc=>by
  k_extra "03r"
  rw [List.length_take,List.length_drop] at hi
  rw [List.getElem_take,List.getElem_drop]
  exact h2 (p+i) _ (by omega) (by exact Ar.q70 hpq hq hi) (List.getElem?_eq_getElem (by exact Ar.q67 hpq hq hi))
 have C:∀c∈as.drop q,κ a0<κ c:=fun c hc=>by
  k_extra "03r"
  rw [List.length_drop] at hi
  rw [List.getElem_drop]
  have x:=hs p q hpl (by exact Ar.q48 hq hi) hpq
  have y:=h3 _ (List.getElem?_eq_getElem (show q<as.length by exact Ar.q48 hq hi))
  rw [ep] at x
  rcases Nat.eq_zero_or_pos i with rfl|hi0
  ·simp only [Nat.add_zero];omega
  ·have z:=hs q (q+i) (by exact Ar.q196 hq hi hi0) (by exact Ar.q222 hq hi) (by exact Nat.lt_add_of_pos_right hi0)
   omega
 have split:as=as.take p++((as.drop p).take (q-p)++as.drop q):=by
  have e1:as.drop q=(as.drop p).drop (q-p):=by rw [List.drop_drop];congr 1;exact Ar.q322 hpq
  rw [e1,List.take_append_drop,List.take_append_drop]
 have cp:∀(P:Addr→Bool) (l:List Addr),(∀c∈l,P c=true)→l.countP P=l.length:=fun P l h=>List.countP_eq_length.mpr h
 have c0:∀(P:Addr→Bool) (l:List Addr),(∀c∈l,P c=false)→l.countP P=0:=fun P l h=>List.countP_eq_zero.mpr fun c hc q=>by rw [h c hc] at q;cases q
 constructor
 ·rw [split,List.countP_append,List.countP_append,cp _ _ (fun c hc=>by simpa using A c hc),c0 _ _ (fun c hc=>by have:=B c hc;simp;omega),c0 _ _ (fun c hc=>by have:=C c hc;simp;exact Ar.q165 this),List.length_take]
  exact Nat.min_eq_left (Nat.le_trans (Nat.le_of_lt hpq) hq)
 ·rw [split,List.countP_append,List.countP_append,c0 _ _ (fun c hc=>by have:=A c hc;simp;exact Int.ne_of_lt this),cp _ _ (fun c hc=>by simpa using B c hc),c0 _ _ (fun c hc=>by have:=C c hc;simp;exact(Int.ne_of_lt this).symm),List.length_take,List.length_drop]
  exact Ar.q99 hpq hq
noncomputable def AH (st:Int)(ns:List Int)(x:Int):Int:=rk2 st (ns.countP fun m=>decide (m<x)) (ns.countP fun m=>decide (m=x))
noncomputable def AU (us:List Value)(ks:List Int):Prop:=us.length=ks.length∧∀(j:Nat) (k:Int),ks[j]?=some k→∃t,us[j]?=some (.float (hf k) t)
noncomputable def BB (π:Addr→Int×Int)(st:Int)(as:List Addr)(us:List Value)(p:Nat):Prop:=
 ∀j a,j<p→as[j]?=some a→∃t,us[(π a).2.toNat]?=some (.float (hf (rk2 st (as.countP fun c=>decide ((π c).1<(π a).1)) (as.countP fun c=>decide ((π c).1=(π a).1)))) t)
theorem Fl {π:Addr→Int×Int}{as:List Addr}{ns:List Int}(hp:(as.map π).Perm (Aa ns)):(as.map fun a=>(π a).2).Nodup:=by
 have e:((Aa ns).map (·.2)).Nodup:=by
  have h2:((Aa ns).map (·.2)).Pairwise (· ≠ ·):=by
   rw [List.pairwise_map,List.pairwise_iff_getElem]
   intro i j hi hj hij e
   k_extra "043"
   k_extra "044"
   k_extra "0X"
   k_extra "0Y"
   rw [ei,ej] at e
   dsimp only at e
   omega
  exact h2
 have:=(hp.map (·.2)).nodup_iff.mpr e
 rwa [List.map_map] at this
theorem DL {π:Addr→Int×Int}{as:List Addr}{ns:List Int}(hp:(as.map π).Perm (Aa ns))(P:Int→Bool):as.countP (fun c=>P (π c).1)=ns.countP P:=by
 have e1:as.countP (fun c=>P (π c).1)=((as.map π).map (·.1)).countP P:=by rw [List.map_map,List.countP_map];rfl
 have e2:(Aa ns).map (·.1)=ns:=by
  apply List.ext_getElem
  ·rw [List.length_map,Ab]
  ·intro i h1 h2
   rw [List.getElem_map]
   have:=Ba h2
   rw [List.getElem?_eq_getElem (by rw [Ab];exact h2)] at this
   rw [Option.some.inj this]
 rw [e1,((hp.map (·.1)).countP_eq P),e2]
theorem BB.fin {π:Addr→Int×Int}{st:Int}{as:List Addr}{us:List Value}{ns:List Int}(hp:(as.map π).Perm (Aa ns))(hl:us.length=as.length)(h:BB π st as us as.length):AU us (ns.map (AH st ns)):=by
 have len:as.length=ns.length:=by have:=hp.length_eq;rw [List.length_map,Ab] at this;exact this
 refine⟨by rw [hl,len,List.length_map],fun j k e=>?_⟩
 rw [List.getElem?_map] at e
 obtain⟨x,hx,rfl⟩:=Option.map_eq_some_iff.mp e
 have hj:j<ns.length:=by
  rcases Nat.lt_or_ge j ns.length with q|q
  ·exact q
  ·rw [List.getElem?_eq_none q] at hx;cases hx
 have ex:ns[j]=x:=by rw [List.getElem?_eq_getElem hj] at hx;exact Option.some.inj hx
 have hm:(x,(j:Int))∈Aa ns:=by
  rw [←ex]
  exact List.mem_of_getElem? (Ba hj)
 obtain⟨a,ha,ea⟩:=List.mem_map.mp (hp.mem_iff.mpr hm)
 obtain⟨i,hi⟩:=List.mem_iff_getElem?.mp ha
 have hil:i<as.length:=by
  rcases Nat.lt_or_ge i as.length with q|q
  ·exact q
  ·rw [List.getElem?_eq_none q] at hi;cases hi
 obtain⟨t,et⟩:=h i a hil hi
 rw [ea] at et
 dsimp only at et
 rw [Int.toNat_natCast,DL hp (fun m=>decide (m<x)),DL hp (fun m=>decide (m=x))] at et
 exact⟨t,et⟩
theorem BB.step {π:Addr→Int×Int}{st:Int}{as:List Addr}{us:List Value}{p:Nat}{a:Addr}{t:Tok}(hnd:(as.map fun a=>(π a).2).Nodup)(h0:∀a∈as,0≤(π a).2∧(π a).2<us.length)(ha:as[p]?=some a)(h:BB π st as us p):
  BB π st as (us.set (π a).2.toNat (.float (hf (rk2 st (as.countP fun c=>decide ((π c).1<(π a).1)) (as.countP fun c=>decide ((π c).1=(π a).1)))) t)) (p+1):=by
 intro j b hj hb
 rcases Nat.lt_or_ge j p with q|q
 ·obtain⟨u,e⟩:=h j b q hb
  refine⟨u,?_⟩
  have hne:(π a).2.toNat≠(π b).2.toNat:=fun z=>by
   have a0:=h0 a (List.mem_of_getElem? ha)
   have b0:=h0 b (List.mem_of_getElem? hb)
   have z':(π a).2=(π b).2:=by exact Ar.q169 z a0 b0
   rw [List.nodup_iff_pairwise_ne,List.pairwise_map,List.pairwise_iff_getElem] at hnd
   have hpl:p<as.length:=by
    rcases Nat.lt_or_ge p as.length with q|q
    ·exact q
    ·rw [List.getElem?_eq_none q] at ha;cases ha
   have:=hnd j p (by exact Nat.lt_trans ‹_› ‹_›) hpl q
   rw [List.getElem?_eq_getElem hpl] at ha
   rw [List.getElem?_eq_getElem (by exact Nat.lt_trans ‹_› ‹_›)] at hb
   rw [Option.some.inj ha,Option.some.inj hb] at this
   exact this z'.symm
  rw [List.getElem?_set_ne hne]
  exact e
 ·obtain rfl:j=p:=by exact Ar.q321 hj q
  rw [ha] at hb;cases hb
  refine⟨t,?_⟩
  have:=h0 a (List.mem_of_getElem? ha)
  rw [List.getElem?_set_self (by exact Ar.q256 this)]
section
variable{prog:Program}{w:World}{A:Around}{E:Value→Shared→Prop}{s:Shared}{h₀:Heap}{L d:Addr}{m:Str→Option Value}{news:List (Addr×Obj)}{vs:List Value}{ns:List Int}{n:Nat}
noncomputable def BE:Value→Tok
 |.int _ t=>t
 |_=>0
theorem Bs {vs:List Value}{ns:List Int}(hi:IntsAre vs ns){k:Nat}(h:k<ns.length):vs[k]?=some (.int (ns.getD k 0) (BE (vs.getD k .none))):=by
 obtain⟨t,e⟩:=CH hi k h
 have e1:ns.getD k 0=ns[k]:=by simp [h]
 have e2:vs.getD k .none= .int ns[k] t:=by rw [List.getD_eq_getElem?_getD,e];rfl
 rw [e1,e2,e]
 rfl
theorem Gw {value slice:PySem.Expr}{k:Int}{u:Tok}{Q:Value→Shared→Prop}(N:News h₀ L s.heap news)(hm:(d,listOf vs.toArray n)∈news)(hi:IntsAre vs ns)(h0:0≤k)(h1:k<ns.length)(hfit:k<2^63)(h:Q (.int (ns.getD k.toNat 0) (BE (vs.getD k.toNat .none))) s)
  (hs:subscripted slice false (.ref d) (.int k u)=operate [.ref d,.int k u] (getItem (.ref d) (.int k u)):=by with_unfolding_all rfl):
  wpAny (model prog w) A (subscriptTail value slice (.ref d) (.int k u)) Q E s:=by
 k_extra "03z"
 refine tail_any hl.typeIs slot_list_getitem.lookup (wpAny_getItem_list hl h0 hfit ?_ h) hs
 have:=Bs hi (k:=k.toNat) (by exact Ar.q74 h0 h1)
 simpa using this
end
noncomputable def srt (ns:List Int):List Int:=ns.mergeSort fun a b=>decide (a≤b)
theorem Co (ns:List Int):(srt ns).Perm ns:=List.mergeSort_perm _ _
theorem Dh (ns:List Int):(srt ns).Pairwise (· ≤ ·):=by
 have:=List.pairwise_mergeSort (le:=fun a b:Int=>decide (a≤b)) (fun a b c h1 h2=>by simp at*;exact Ar.q285 h1 h2) (fun a b=>by simp;exact Ar.q307) ns
 exact this.imp fun h=>by simpa using h
theorem Bk {ms ns:List Int}(p:ms.Perm ns)(o:ms.Pairwise (· ≤ ·)):ms=srt ns:=
 List.Perm.eq_of_pairwise (le:=(· ≤ ·)) (fun a b _ _ h1 h2=>Int.le_antisymm h1 h2) o (Dh ns) (p.trans (Co ns).symm)
theorem AY (ns:List Int):(srt ns).length=ns.length:=(Co ns).length_eq
theorem Ax {s₀ g hE:Heap}{mu:List (Addr×Obj)}{L:Addr}{m:Str→Option Value}(keep:∀b o,s₀.get? b=some o→b∉mu.map (·.1)→g.get? b=some o)(F:Fr g L hE m)(hmu:∀q∈mu,s₀.get? q.1=some q.2)(same:∀q∈mu,hE.get? q.1=some q.2):
  ∀b o,s₀.get? b=some o→hE.get? b=some o:=fun b o e=>by
 by_cases hm:b∈mu.map (·.1)
 ·k_extra "04t"
  rw [hmu q hq] at e
  cases e
  exact same q hq
 ·exact F.keep _ _ (keep b o e hm)
theorem AL {P:Addr×Obj→Prop}{q:Addr×Obj}(h:P q):∀x∈ [q],P x:=fun x hx=>by
 cases hx with
 |head=>exact h
 |tail _ hx=>cases hx
theorem By {P:Addr×Obj→Prop}{q r:Addr×Obj}(h:P q)(h':P r):∀x∈ [q,r],P x:=fun x hx=>by
 cases hx with
 |head=>exact h
 |tail _ hx=>exact AL h' x hx
theorem BF {s₀ g g2:Heap}{fs:List Addr}{mu:List (Addr×Obj)}{R:Addr}(keep:∀b o,s₀.get? b=some o→b∉mu.map (·.1)→g.get? b=some o)(T:KtsTurn fs g g2)(e:g2.get? R=none)(hm:∀q∈mu,q.1<R):s₀.get? R=none:=Cf fun o eo=>by
 obtain⟨sl,e3⟩:=T.up (keep _ o eo fun q=>by
  obtain⟨x,hx,ex⟩:=List.mem_map.mp q
  exact Nat.ne_of_lt (hm x hx) ex)
 rw [e] at e3;cases e3
theorem Dk {hE:Heap}{mu:List (Addr×Obj)}{wr:List Addr}(h:∀q∈mu,hE.get? q.1=some q.2):∀q∈mu,q.1∉wr→hE.get? q.1=some q.2:=fun q hq _=>h q hq
theorem HJ {ns:List Int}{x:Int}:x∈srt ns↔x∈ns:=(Co ns).mem_iff
theorem CP {ns:List Int}{B:Nat}(hB:0<B)(hbd:∀x∈ns,x.natAbs<B)(k:Nat):((srt ns).getD k 0).natAbs<B:=by
 rcases Nat.lt_or_ge k (srt ns).length with h|h
 ·have e:(srt ns).getD k 0=(srt ns)[k]:=by simp [h]
  rw [e]
  exact hbd _ (HJ.mp (List.getElem_mem h))
 ·have e:(srt ns).getD k 0=0:=by rw [List.getD_eq_getElem?_getD,List.getElem?_eq_none h];rfl
  rw [e]
  exact hB
theorem Il {ns:List Int}(hbd:∀x∈ns,x.natAbs<2^50)(k:Nat):Builtin.Int.intBits ((srt ns).getD k 0)≤64:=by
 have:=CP (B:=2^50) (by decide) hbd k
 exact intBits_le_64 (by exact Ar.q185 this) (by exact Ar.q184 this)
theorem Gk {x1 x2 N d:Int}(h:d=0):x1*(N-d)+x2*d=x1*N:=by subst h;simp
theorem Gn {x1 x2 N d:Int}(h:d=N):x1*(N-d)+x2*d=x2*N:=by subst h;simp
theorem Gm {x1 x2 d:Int}(h:d=1):x1*(2-d)+x2*d=x1+x2:=by subst h;simp
theorem Gl {i L:Int}(h:1+i=L):(1+i)*(L+1)-(L-1)*(L+1)=L+1:=by
 subst h
 rw [←Int.sub_mul,show 1+i-(1+i-1)=1 by omega,Int.one_mul]
theorem IM {x N:Int}(h:x.natAbs<2^51)(hN:0<N):Float64.ofFrac (decide (x*N<0) !=decide (N<0)) (x*N).natAbs N.natAbs=hf (2*x):=by
 have e1:(decide (x*N<0) !=decide (N<0))=decide (2*x<0):=by
  have h1:decide (N<0)=false:=by simp;omega
  rw [h1,Bool.bne_false,decide_eq_decide]
  constructor
  ·intro q
   rcases Int.lt_or_le x 0 with z|z
   ·exact Int.mul_neg_of_pos_of_neg (by decide) z
   ·exact absurd (Int.mul_nonneg z (Int.le_of_lt hN)) (by omega)
  ·intro q
   exact Int.mul_neg_of_neg_of_pos (by exact Int.not_le.mp fun r=>absurd (Int.mul_nonneg (by decide) r) (Int.not_le.mpr q)) hN
 rw [e1]
 refine Cr (by exact Ar.dbl ‹_› (by rfl)) (PySem.Float64.ofFrac_right (by exact Ar.q274 hN) ?_ (by decide))
 rw [Int.natAbs_mul,Nat.mul_one,show(2*x).natAbs=2*x.natAbs by exact Ar.q187,show(2:Nat)^1074=2*2^1073 from Nat.pow_succ' ..]
 generalize (2:Nat)^1073=K
 generalize x.natAbs=a
 generalize N.natAbs=b
 ac_rfl
theorem Hx {x N:Int}(h:x.natAbs<2^51)(hN:N.natAbs<2^20):(x*N).natAbs<2^1023:=by
 rw [Int.natAbs_mul]
 have h1:x.natAbs*N.natAbs<2^51*2^20:=Nat.mul_lt_mul'' h hN
 rw [←Nat.pow_add] at h1
 exact Nat.lt_of_lt_of_le h1 (Nat.pow_le_pow_right (by decide) (by decide))
section
variable{prog:Program}{w:World}{A:Around}{E:Value→Shared→Prop}{s:Shared}
theorem GI {a x N:Int}{t u:Tok}{Q:Value→Shared→Prop}(hA:A.handled=none)(e:a=x*N)(hx:x.natAbs<2^51)(hN:0<N)(hN2:N.natAbs<2^20)(h:Q (.float (hf (2*x)) s.toks) {s with toks:=s.toks+1}):
  wpAny (model prog w) A (binaryOp .Div (.int a t) (.int N u)) Q E s:=by
 subst e
 refine PySem.Flt.div_ii_fits hA (Hx hx hN2) (fun e=>by omega) fun _ _=>?_
 rw [IM hx hN]
 exact h
theorem JZ {a x:Int}{t u:Tok}{Q:Value→Shared→Prop}(hA:A.handled=none)(e:a=x)(hx:x.natAbs<2^52)(h:Q (.float (hf x) s.toks) {s with toks:=s.toks+1}):
  wpAny (model prog w) A (binaryOp .Div (.int a t) (.int 2 u)) Q E s:=by
 subst e
 refine PySem.Flt.div_ii_fits hA (Nat.lt_of_lt_of_le hx (Nat.pow_le_pow_right (by decide) (by decide))) (fun e=>absurd e (by decide)) fun _ _=>?_
 k_extra "03A"
 rw [e]
 exact h
end
theorem FZ {ns:List Int}(hbd:∀x∈ns,x.natAbs<2^50)(i j:Nat):((srt ns).getD i 0+(srt ns).getD j 0).natAbs<2^52:=by
 have h1:=CP (B:=2^50) (by decide) hbd i
 have h2:=CP (B:=2^50) (by decide) hbd j
 exact Ar.dbS ‹_› ‹_› (by rfl)
theorem Im {ns:List Int}(hbd:∀x∈ns,x.natAbs<2^50)(i:Nat):((srt ns).getD i 0).natAbs<2^51:=by
 have h1:=CP (B:=2^50) (by decide) hbd i
 exact Ar.upLL ‹_› (by rfl)
theorem J0 {v:Value}{j:Nat}(h:j<1): [v][j]?=some v:=by
 have:j=0:=by omega
 subst this;rfl
theorem Hv {I l D d:Addr}{i n:Nat}{us:List Value}{c:Nat}{oD od:Obj}: [(I,AJ (1+(i:Int)+1) ((n:Int)-i-1) 1),(l,listOf us.toArray c),(D,oD),(d,od)]= [(I,AJ (1+((i+1:Nat):Int)) ((n:Int)-(i+1:Nat)) 1),(l,listOf us.toArray c),(D,oD),(d,od)]:=by
 rw [show 1+(i:Int)+1=1+((i+1:Nat):Int) by omega,show(n:Int)-i-1=(n:Int)-(i+1:Nat) by exact Ar.zc]
theorem Cb {us:List Value}{i:Nat}{f:Nat→Int}{t:Tok}(hus:us.length=i)(h:∀j,j<i→∃t,us[j]?=some (.float (hf (f j)) t)):∀j,j<i+1→∃u,(us++ [.float (hf (f i)) t])[j]?=some (.float (hf (f j)) u):=fun j hj=>by
 rcases Nat.lt_or_ge j i with q|q
 ·obtain⟨u,e⟩:=h j q
  exact⟨u,by rw [List.getElem?_append_left (by exact Ar.rl ‹_› ‹_›)];exact e⟩
 ·obtain rfl:j=i:=by exact Ar.q321 hj q
  exact⟨t,by rw [List.getElem?_append_right (by exact Ar.rle' ‹_› ‹_›),hus];simp⟩
theorem Ei {us:List Value}{ms:List Int}{n:Nat}(sl:ms.length=n)(hus:us.length=n)(h:∀j,j<n→∃t,us[j]?=some (.float (hf (2*ms.getD j 0)) t)):us.length=(ms.map fun x=>2*x).length∧∀(j:Nat) (k:Int),(ms.map fun x=>2*x)[j]?=some k→∃t,us[j]?=some (.float (hf k) t):=by
 refine⟨by rw [List.length_map,sl,hus],fun j k e=>?_⟩
 rw [List.getElem?_map] at e
 obtain⟨x,hx,rfl⟩:=Option.map_eq_some_iff.mp e
 have hj:j<ms.length:=by
  rcases Nat.lt_or_ge j ms.length with q|q
  ·exact q
  ·rw [List.getElem?_eq_none q] at hx;cases hx
 have e2:ms.getD j 0=x:=by rw [List.getD_eq_getElem?_getD,hx];rfl
 have:=h j (by exact Ar.rr2 ‹_› ‹_›)
 rw [e2] at this
 exact this
theorem K7 {ms:List Int}(h:ms.length=9):pickNums ms none (some 3) (some (-1))=ms.reverse.take 5:=by
 unfold pickNums
 rw [h]
 have e:sliceRange (sliceBounds none (some 3) (some (-1)) 9).1 (sliceBounds none (some 3) (some (-1)) 9).2.1 (sliceBounds none (some 3) (some (-1)) 9).2.2= [8,7,6,5,4]:=by decide+kernel
 rw [e]
 exact lsC (P:=fun ms=>List.filterMap (fun x=>ms[x]?) [8,7,6,5,4]=ms.reverse.take 5) (fun _=>lsC fun _=>lsC fun _=>lsC fun _=>lsC fun _=>lsC fun _=>lsC fun _=>lsC fun _=>lsC fun _=>lsN rfl) ms h
section
variable{prog:Program}{w:World}{A:Around}{E:Value→Shared→Prop}{s:Shared}
theorem C1 (a v u:Value):argsOk "list.sort" ⟨[a],[(Str.ofString "key",v),(Str.ofString "reverse",u)]⟩:=by unfold argsOk;kernel_rfl
theorem EI (a v u:Value):argsOk "sorted" ⟨[a],[(Str.ofString "key",v),(Str.ofString "reverse",u)]⟩:=by unfold argsOk;kernel_rfl
theorem FA (a:Addr)(b:Bool):Builtin.«list.sort» ⟨[.ref a],[(Str.ofString "key",.none),(Str.ofString "reverse",.bool b)]⟩=Builtin.«list.sort» ⟨[.ref a],[(Str.ofString "reverse",.bool b)]⟩:=by
 rw [list_sort_rev];rfl
theorem Di {l:Addr}{vs:List Value}{ns:List Int}{b:Bool}{Q:Value→Shared→Prop}(hl:s.heap.IsList l vs.toArray)(hI:IntsAre vs ns)(h64:vs.length<64)
  (h:∀(out:Array Value) (ns':List Int),IntsAre out.toList ns'→ns'.Perm ns→Ordered b ns'→Q (.ref (s.heap.objs.size+1)) {s with heap:=sortedAll s.heap vs out}):
  wpAny (model prog w) A (call (.builtin "sorted") [.ref l] [(Str.ofString "key",.none),(Str.ofString "reverse",.bool b)]) Q E s:=by
 refine call_function_entry_kw kind_sorted plain_sorted entry_sorted (EI _ _ _) ?_
 unfold Builtin.«sorted»
 k_extra "03x"
 refine wpAny_bind (collect_list hl ?_)
 k_extra "04T"
 have hsz:((s.heap.push (seqObj "list" #[] 0)).update s.heap.objs.size (Obj.mapSeq (· ++vs.toArray))).objs.size=s.heap.objs.size+1:=by
  rw [Heap.size_update,size_push']
 have hoL:(((s.heap.push (seqObj "list" #[] 0)).update s.heap.objs.size (Obj.mapSeq (· ++vs.toArray))).push (seqObj "list" vs.toArray 0)).get? (s.heap.objs.size+1)=some (seqObj "list" vs.toArray 0):=by
  rw [←hsz];exact Heap.get?_push_size _ rfl
 show wpAny _ _ _ _ _ {s with heap:=((s.heap.push (seqObj "list" #[] 0)).update s.heap.objs.size (Obj.mapSeq (· ++vs.toArray))).push (seqObj "list" vs.toArray 0)}
 rw [hsz]
 refine wpAny_bind (wpAny_holding (wpAny_call_entry_kw slot_list_sort ⟨_,hoL,rfl⟩ entry_list_sort (by rw [FA];exact list_sort_tree_rev hoL hI h64 fun out ns' a1 a2 a3=>⟨_,rfl,wpAny_pure ⟨_,rfl,h out ns' a1 a2 a3⟩⟩) (C1 _ _ _)))
theorem Jq {ms ns:List Int}(p:ms.Perm ns)(o:ms.Pairwise (· ≥ ·)):ms=(srt ns).reverse:=by
 have:ms.reverse=srt ns:=Bk ((List.reverse_perm _).trans p) (by rw [List.pairwise_reverse];exact o)
 rw [←this,List.reverse_reverse]
theorem FE {h₀:Heap}{L:Addr}{m:Str→Option Value}{news:List (Addr×Obj)}{l:Addr}{vs:List Value}{ns:List Int}{n:Nat}{Q:Value→Shared→Prop}
  (F:Fr h₀ L s.heap m) (N:News h₀ L s.heap news) (hm:(l,listOf vs.toArray n)∈news) (hI:IntsAre vs ns) (h64:ns.length<64)
  (h:∀D h' vs' e,Fr h₀ L h' m→News h₀ L h' ((D,listOf vs'.toArray e)::news)→(∀p∈news,p.1<D)→IntsAre vs' (srt ns).reverse→Q (.ref D) {s with heap:=h'}):
  wpAny (model prog w) A (call (.builtin "sorted") [.ref l] [(Str.ofString "key",.none),(Str.ofString "reverse",.bool true)]) Q E s:=by
 have hvl:=AC hI
 refine Di ⟨_,(N _ hm).1,rfl,n,rfl⟩ hI (by exact Ar.upELL ‹_› ‹_› (by rfl)) fun out ns' a1 a2 a3=>?_
 obtain⟨e,he⟩:=sortedAll_at s.heap vs out
 have a3':ns'.Pairwise (· ≥ ·):=a3
 have e2:=Jq a2 a3'
 subst e2
 exact h _ _ out.toList e (F.kept fun _ _=>sortedAll_old) (N.kept_cons F (fun _ _=>sortedAll_old) (Nat.le_succ _) he) (fun q hq=>Nat.lt_succ_of_lt (Heap.lt_size (N q hq).1)) a1
end
section
variable{prog:Program}{w:World}{A:Around}{E:Value→Shared→Prop}{s:Shared}
theorem GS (a v u:Value):argsOk "max" ⟨[a],[(Str.ofString "default",v),(Str.ofString "key",u)]⟩:=by unfold argsOk;kernel_rfl
theorem FM {id:String}{b:Builtin}{args:List Value}{kw:List (Str×Value)}{Q:Value→Shared→Prop}(hk:builtinKind id=none)(hp:plainId id=true)
  (hb:entryFor table id=some b) (ha:argsOk id ⟨args,kw⟩)
  (hc:wpAny (model prog w) A.in1 (b ⟨args,kw⟩) (fun fin s'=>match fin with
   |.done f=>(match(Except.ok f:Result) with|.ok (.ret v)=>Q v s'|.ok _=>False|.error e=>E e s')
   |.again c'=>c'.quiet=true∧codeAny (model prog w) A c' (fun r s'=>match r with|.ok (.ret v)=>Q v s'|.ok _=>False|.error e=>E e s') s') E s):wpAny (model prog w) A (call (.builtin id) args kw) Q E s:=by
 refine wpAny_call (codeAny_call_builtin hp hb ?_)
 simp only [checkBuiltinCall,hk]
 cases hsig:Manifest.signature? id with
 |none=>exact wpAny_pure hc
 |some sig=>
  have ha':Bind.checkArgs id sig ⟨args,kw⟩=pure ():=by simpa only [argsOk,hsig] using ha
  simp only [ha']
  exact wpAny_pure hc
theorem J6 {I D:Addr}{v dv:Value}{Q:Value→Shared→Prop}(hh:A.handled=none)(hit:s.heap.IsListIter I D 0)(hl:s.heap.IsList D #[v])(hID:I≠D)
  (h:∀h',(∀b o,s.heap.get? b=some o→b≠I→h'.get? b=some o)→Q v {s with heap:=h'}):
  wpAny (model prog w) A (call (.builtin "max") [.ref I] [(Str.ofString "default",dv),(Str.ofString "key",.none)]) Q E s:=by
 have hlt:I<s.heap.objs.size:=by obtain⟨o,e,_⟩:=hit;exact Heap.lt_size e
 have hltD:D<s.heap.objs.size:=by obtain⟨o,e,_⟩:=hl;exact Heap.lt_size e
 have hname:(toString "max"++toString ".loop":String)= "max.loop":=by decide
 refine FM F.kind_max F.plain_max F.entry_max (GS _ _ _) ?_
 show wpAny _ A.in1 (Builtin.Builtins.bindParams "max" ["key","default"] 0 ⟨[],[(Str.ofString "default",dv),(Str.ofString "key",.none)]⟩>>=_) _ _ s
 refine wpAny_bind (wpAny_of_eq (a:= [some .none,some dv]) (by first|rfl|kernel_rfl) ?_)
 show wpAny _ A.in1 (pyIter (.ref I)>>=_) _ _ s
 refine wpAny_bind (wpAny_pyIter_listiter hit ?_)
 show wpAny _ A.in1 (newList []>>=_) _ _ s
 k_extra "04T"
 rw [hname]
 k_extra "03W"
 have up:∀b o,s.heap.get? b=some o→(s.heap.push (seqObj "list" #[] 0)).get? b=some o:=fun b o e=>Heap.get?_push_of_some _ e
 have hS:(s.heap.push (seqObj "list" #[] 0)).get? s.heap.objs.size=some (seqObj "list" #[] 0):=Heap.get?_push_size _ rfl
 refine codeAny_builtin F.entry_max_loop ?_
 rw [Around.under_plainId F.plain_max_loop _]
 k_extra "03B"
 refine wpAny_bind (wpAny_seqItems hS rfl ?_)
 k_extra "03X"
 refine wpAny_bind (wpAny_tryCatch (wpAny_pyNext_list_item (s:={s with heap:=s.heap.push (seqObj "list" #[] 0)}) (IsListIter.keep' hit (up _)) (IsList.keep' hl (up _)) (x:=v) rfl fun h1 hit1 hs1=>?_))
 have hS1:=hs1.extBut _ _ (Nat.ne_of_gt hlt) hS
 have hl1:h1.IsList D #[v]:=IsList.keep' hl fun o e=>hs1.extBut _ _ (Ne.symm hID) (up _ _ e)
 show wpAny _ A.in1 (updateSeq s.heap.objs.size (fun _=> #[v,v])>>=_) _ _ _
 refine wpAny_bind (wpAny_updateSeq (s:={s with heap:=h1}) hS1 rfl ?_)
 have hS2:=Heap.get?_update_self (Obj.mapSeq fun _=> #[v,v]) hS1 rfl
 have k2:∀b o,b≠s.heap.objs.size→h1.get? b=some o→(h1.update s.heap.objs.size (Obj.mapSeq fun _=> #[v,v])).get? b=some o:=fun b o hb e=>(Heap.get?_update_other _ _ (Ne.symm hb)).trans e
 generalize h1.update s.heap.objs.size (Obj.mapSeq fun _=> #[v,v])=h2 at hS2 k2
 rw [hname]
 k_extra "03W"
 refine codeAny_builtin F.entry_max_loop ?_
 rw [Around.under_plainId F.plain_max_loop _]
 k_extra "03B"
 refine wpAny_bind (wpAny_seqItems hS2 rfl ?_)
 k_extra "03X"
 refine wpAny_bind (wpAny_tryCatch (wpAny_pyNext_list_end (s:={s with heap:=h2}) hh (IsListIter.keep' hit1 fun o e=>k2 _ o (Nat.ne_of_lt hlt) e) (IsList.keep' hl1 fun o e=>k2 _ o (Nat.ne_of_lt hltD) e) rfl fun h3 hs3=>?_))
 have hS3:=hs3 _ _ (Nat.ne_of_gt hlt) hS2
 show wpAny _ A.in1 (updateSeq s.heap.objs.size (fun _=> #[])>>=_) _ _ _
 refine wpAny_bind (wpAny_updateSeq (s:={s with heap:=h3}) hS3 rfl ?_)
 refine wpAny_bind (wpAny_letGo (wpAny_pure ?_))
 refine h _ fun b o e hb=>?_
 have hbS:b≠s.heap.objs.size:=Nat.ne_of_lt (Heap.lt_size e)
 exact(Heap.get?_update_other _ _ (Ne.symm hbS)).trans (hs3 _ _ hb (k2 _ _ hbS (hs1.extBut _ _ hb (up _ _ e))))
end
namespace FO
open PySem.F
theorem called_object:TypeCalled "object" "object.__new__" "object.__init__":=
 ⟨by decide+kernel,by decide+kernel,⟨_,_,mro_object⟩,by kernel_rfl,by decide+kernel,by rw [isSubtype_type];kernel_rfl,slot_object_init⟩
end FO
section
variable{prog:Program}{w:World}{A:Around}{E:Value→Shared→Prop}{s:Shared}{g:Heap}{L:Addr}{m:Str→Option Value}{news:List (Addr×Obj)}
theorem DB:Meets (Builtin.«object.__new__» ⟨[.type "object"],[]⟩) (fun _ R s=>R (.ok (.ret (.ref s.heap.objs.size))) {s with heap:=s.heap.push {cls:=.type "object",data:=.plain}}):=
 Meets.of_wp fun prog w A R s hs=>by
  obtain⟨hp,g,d,tk,os⟩:=s
  have hm:Bind.madeHere "object.__new__" (.type "object")=pure ():=by
   rw [Bind.madeHere,show Bind.staticBase (.type "object")=pure (.type "object") by kernel_rfl]
   simp only [pure_bind,FO.called_object.made,Option.map_some,bne_self_eq_false,Bool.false_eq_true,if_false]
  wp_walk
  exact⟨_,rfl,hs⟩
theorem GN {Q:Value→Shared→Prop}(F:Fr g L s.heap m)(N:News g L s.heap news)
  (h:∀D h',Fr g L h' m→News g L h' ((D,{cls:=.type "object",data:=.plain})::news)→(∀p∈news,p.1<D)→Q (.ref D) {s with heap:=h'}):wpAny (model prog w) A (call (.type "object") []) Q E s:=by
 refine callType_meets (Q₁:=fun obj s₁=>obj= .ref s.heap.objs.size∧s₁={s with heap:=s.heap.push {cls:=.type "object",data:=.plain}}) FO.called_object (by kernel_rfl) (by kernel_rfl) (entryFor_of_tree (by kernel_rfl)) PySem.F.entry_object_init DB ⟨rfl,rfl⟩ ?_
 rintro obj s₁ ⟨rfl,rfl⟩
 refine⟨⟨_,Heap.get?_push_size _ rfl,rfl⟩,PySem.F.args_object_init_1 _,_,Meets.of_wp (S:=fun _ R s=>R (.ok (.ret .none)) s) fun prog w A R s hs=>wpAny_pure ⟨_,rfl,hs⟩,rfl,h _ _ (F.push _) (News.push F N _ rfl) fun q hq=>Heap.lt_size (N q hq).1⟩
end
section
variable{M:Model}{A:Around}{E:Value→Shared→Prop}{s:Shared}
theorem Gu {x:Int}{t:Tok}{r:Addr}{Q:Value→Shared→Prop}(h:Q (.bool false) s):wpAny M A (compareOp .Is (.int x t) (.ref r)) Q E s:=by
 show wpAny M A (isSame (.int x t) (.ref r)>>=fun b=>pure (.bool b)) Q E s
 exact wpAny_bind (wpAny_of_eq (a:=false) rfl (wpAny_pure h))
end
theorem Dw {p q:Int×Int}(hp:AK p)(hq:AK q):AI [p.1,p.2] [q.1,q.2]=decide (pk p<pk q):=by
 obtain⟨p1,p2⟩:=p
 obtain⟨q1,q2⟩:=q
 unfold AK at hp hq
 unfold pk
 dsimp only at hp hq⊢
 simp only [AI]
 by_cases h1:p1=q1
 ·subst h1
  by_cases h2:p2=q2
  ·subst h2;simp
  ·simp only [if_true,if_neg h2]
   rw [decide_eq_decide];exact(Int.add_lt_add_iff_left _).symm
 ·rw [if_neg h1,decide_eq_decide];exact Ar.lexI (by decide) (Ar.b20 hp hq) (Ar.b20 hq hp) h1
noncomputable def Jc (p:Int×Int):Int×Int:=if-524288≤p.2∧p.2<524288 then p else(0,0)
theorem HE (p:Int×Int):AK (Jc p):=by
 unfold Jc AK
 split
 ·assumption
 ·decide
theorem IV {p:Int×Int}(h:AK p):Jc p=p:=if_pos h
theorem I6 {p q:Int×Int}(hp:AK p)(hq:AK q)(h:pk p≤pk q):p.1≤q.1:=by
 unfold AK at hp hq
 unfold pk at h
 exact Ar.lexL (by decide) (Ar.b20 hq hp) h
structure AV (ns:List Int) (π:Addr→Int×Int) (as:List Addr) (ord:Int) (i:Nat) (drop:List Int):Prop where
 len:as.length=5
 small:∀a,AK (π a)
 heap:AW (fun a=>pk (π a)) 0 as
 nd:(as.map fun a=>(π a).2).Nodup
 above:∀a∈as,ord<(π a).2
 low0:-(i:Int)≤ord
 high0:ord≤0
 perm:(as.map (fun a=>(π a).1)++drop).Perm (ns.take i)
 low:∀x∈drop,∀a∈as,x≤(π a).1
theorem AV.lt {ns:List Int}{π:Addr→Int×Int}{as:List Addr}{ord:Int}{i:Nat}{drop:List Int}(T:AV ns π as ord i drop)(a b:Addr):AI [(π a).1,(π a).2] [(π b).1,(π b).2]=decide (pk (π a)<pk (π b)):=Dw (T.small a) (T.small b)
theorem AV.root {ns:List Int}{π:Addr→Int×Int}{as:List Addr}{ord:Int}{i:Nat}{drop:List Int}(T:AV ns π as ord i drop):∀a∈as,(π (as.getD 0 0)).1≤(π a).1:=fun a ha=>I6 (T.small _) (T.small _) (Dy T.heap a ha)
theorem AV.start {ns:List Int}{π:Addr→Int×Int}{as:List Addr}(h9:5≤ns.length)(hlen:as.length=5)(hs:∀a,AK (π a))(hv:∀(j:Nat) a,as[j]?=some a→π a=(ns.getD j 0,-(j:Int))):
  AV ns π (AQ (fun a b=>AI [(π a).1,(π a).2] [(π b).1,(π b).2]) (as.length/2) as) (-5) 5 []:=by
 obtain⟨h1,p1⟩:=CI (K:=fun a=>pk (π a)) (lt:=fun a b=>AI [(π a).1,(π a).2] [(π b).1,(π b).2]) (fun a b=>Dw (hs a) (hs b)) as
 generalize AQ (fun a b=>AI [(π a).1,(π a).2] [(π b).1,(π b).2]) (as.length/2) as=bs at h1 p1
 have e1:as.map (fun a=>(π a).1)=ns.take 5:=by
  apply List.ext_getElem
  ·rw [List.length_map,List.length_take];omega
  ·intro j a1 a2
   rw [List.getElem_map,List.getElem_take]
   rw [List.length_map] at a1
   rw [hv j as[j] (List.getElem?_eq_getElem a1)]
   have:j<ns.length:=by exact Nat.lt_of_lt_of_le (hlen▸a1) h9
   simp [this]
 have e2:as.map (fun a=>(π a).2)=(List.range 5).map fun j:Nat=>-(j:Int):=by
  apply List.ext_getElem
  ·rw [List.length_map,List.length_map,List.length_range];exact hlen
  ·intro j a1 a2
   rw [List.getElem_map,List.getElem_map,List.getElem_range]
   rw [List.length_map] at a1
   rw [hv j as[j] (List.getElem?_eq_getElem a1)]
 refine⟨p1.length_eq.trans hlen,hs,h1,?_,fun a ha=>?_,by decide,by decide,?_,fun x hx=>by cases hx⟩
 ·refine(p1.map _).nodup_iff.mpr ?_
  rw [e2];decide
 ·have:(π a).2∈as.map (fun a=>(π a).2):=List.mem_map_of_mem (f:=fun a=>(π a).2) (p1.mem_iff.mp ha)
  rw [e2] at this
  have key:∀z∈(List.range 5).map (fun j:Nat=>-(j:Int)),(-5:Int)<z:=by decide
  exact key _ this
 ·rw [List.append_nil,←e1]
  exact p1.map _
theorem Ec {ns:List Int}{i:Nat}(h:i<ns.length):ns.take (i+1)=ns.take i++ [ns.getD i 0]:=by
 rw [List.take_add_one,List.getElem?_eq_getElem h]
 simp [h]
theorem AV.keep {ns:List Int}{π:Addr→Int×Int}{as:List Addr}{ord:Int}{i:Nat}{drop:List Int}(T:AV ns π as ord i drop)(hi:i<ns.length)(h:¬(π (as.getD 0 0)).1<ns.getD i 0):AV ns π as ord (i+1) (ns.getD i 0::drop):=by
 refine⟨T.len,T.small,T.heap,T.nd,T.above,by have:=T.low0;exact Ar.r247 this,T.high0,?_,fun x hx a ha=>?_⟩
 ·rw [Ec hi]
  exact(List.perm_middle.trans (List.Perm.cons _ T.perm)).trans (List.perm_append_singleton _ _).symm
 ·k_extra "029"
  ·have:=T.root a ha
   exact Ar.q450 h this
  ·exact T.low x hx a ha
theorem AV.replace {ns:List Int}{π:Addr→Int×Int}{as:List Addr}{ord:Int}{i:Nat}{drop:List Int}{b:Addr}(T:AV ns π as ord i drop)(hi:i<ns.length)(h64:ns.length<64)(hb:b∉as)(h:(π (as.getD 0 0)).1<ns.getD i 0):
  AV ns (fun a=>if a=b then(ns.getD i 0,ord) else π a) (siftup (fun x y=>AI [(if x=b then(ns.getD i 0,ord) else π x).1,(if x=b then(ns.getD i 0,ord) else π x).2] [(if y=b then(ns.getD i 0,ord) else π y).1,(if y=b then(ns.getD i 0,ord) else π y).2]) 0 (as.set 0 b)) (ord-1) (i+1) ((π (as.getD 0 0)).1::drop):=by
 have hl0:=T.low0
 have hh0:=T.high0
 have hs':∀a,AK (if a=b then(ns.getD i 0,ord) else π a):=fun a=>by
  split
  ·exact⟨by show-524288≤ord;exact Int.le_trans (Int.neg_le_neg (Int.le_of_lt (Ar.zupL (Nat.lt_trans hi h64) rfl))) hl0,by show ord<524288;exact Int.lt_of_le_of_lt hh0 (by decide)⟩
  ·exact T.small a
 have old:∀a∈as,(if a=b then(ns.getD i 0,ord) else π a)=π a:=fun a ha=>if_neg fun e=>hb (by rw [←e];exact ha)
 generalize hπ:(fun a=>if a=b then(ns.getD i 0,ord) else π a)=π' at*
 have hπ':∀a,(if a=b then(ns.getD i 0,ord) else π a)=π' a:=fun a=>congrFun hπ a
 simp only [hπ'] at hs' old⊢
 have hpb:π' b=(ns.getD i 0,ord):=by rw [←hπ' b,if_pos rfl]
 obtain⟨r,rest,rfl⟩:∃r rest,as=r::rest:=by
  cases as with
  |nil=>have:=T.len;simp at this
  |cons r rest=>exact⟨r,rest,rfl⟩
 have hr:(r::rest).getD 0 0=r:=rfl
 rw [hr] at h⊢
 have H1:AW (fun a=>pk (π' a)) 1 ((r::rest).set 0 b):=fun j hj h0 hp=>by
  rw [List.length_set] at hj
  k_extra "01N"
  have m1:(r::rest).getD ((j-1)/2) 0∈r::rest:=AN (by exact Ar.par ‹_›)
  have m2:(r::rest).getD j 0∈r::rest:=AN hj
  show pk (π' _)≤pk (π' _)
  rw [old _ m1,old _ m2]
  exact T.heap j hj h0 (Nat.zero_le _)
 obtain⟨h1,p1⟩:=Be (K:=fun a=>pk (π' a)) (lt:=fun x y=>AI [(π' x).1,(π' x).2] [(π' y).1,(π' y).2]) (fun a c=>Dw (hs' a) (hs' c)) (p:=0) (as:=(r::rest).set 0 b) (by simp) H1
 generalize siftup (fun x y=>AI [(π' x).1,(π' x).2] [(π' y).1,(π' y).2]) 0 ((r::rest).set 0 b)=bs at h1 p1
 have hset:(r::rest).set 0 b=b::rest:=rfl
 rw [hset] at p1
 have er1:rest.map (fun a=>(π' a).1)=rest.map (fun a=>(π a).1):=List.map_congr_left fun a ha=>by rw [old a (.tail _ ha)]
 have er2:rest.map (fun a=>(π' a).2)=rest.map (fun a=>(π a).2):=List.map_congr_left fun a ha=>by rw [old a (.tail _ ha)]
 have ab:∀a∈bs,a=b∨a∈rest:=fun a ha=>List.mem_cons.mp (p1.mem_iff.mp ha)
 refine⟨p1.length_eq.trans (by have:=T.len;simpa using this),hs',h1,?_,fun a ha=>?_,by exact Ar.r230 hl0,by omega,?_,fun x hx a ha=>?_⟩
 ·refine(p1.map _).nodup_iff.mpr ?_
  rw [List.map_cons,er2,List.nodup_cons]
  have nd:=T.nd
  rw [List.map_cons,List.nodup_cons] at nd
  refine⟨fun hm=>?_,nd.2⟩
  rw [hpb] at hm
  obtain⟨a,ha,ea⟩:=List.mem_map.mp hm
  have:=T.above a (.tail _ ha)
  dsimp only at ea
  omega
 ·rcases ab a ha with rfl|ha
  ·rw [hpb];show ord-1<ord;omega
  ·rw [old a (.tail _ ha)]
   have:=T.above a (.tail _ ha)
   exact Ar.r215 this
 ·rw [Ec hi]
  have e1:(bs.map (fun a=>(π' a).1)).Perm (ns.getD i 0::rest.map (fun a=>(π a).1)):=by
   have:=p1.map (fun a=>(π' a).1)
   rw [List.map_cons,er1,hpb] at this
   exact this
  have e2:=T.perm
  rw [List.map_cons] at e2
  refine(e1.append_right _).trans ?_
  rw [List.cons_append]
  refine(List.Perm.cons _ (List.perm_middle.trans e2)).trans (List.perm_append_singleton _ _).symm
 ·have hx':x≤(π r).1:=by
   k_extra "029"
   ·exact Int.le_refl _
   ·exact T.low x hx r (.head _)
  rcases ab a ha with rfl|ha
  ·rw [hpb];show x≤ns.getD i 0;exact Ar.q546 h hx'
  ·rw [old a (.tail _ ha)]
   have:=T.root a (.tail _ ha)
   rw [hr] at this
   exact Ar.q285 hx' this
theorem AV.fin {ns:List Int}{π:Addr→Int×Int}{as bs:List Addr}{ord:Int}{drop:List Int}(T:AV ns π as ord ns.length drop)(p:bs.Perm as)(o:(katRev true bs).Pairwise fun x y=>pk (π x)<pk (π y)):bs.map (fun a=>(π a).1)=((srt ns).reverse).take 5:=by
 have o1:(bs.map fun a=>(π a).1).Pairwise (· ≥ ·):=by
  have o2:(bs.reverse).Pairwise fun x y=>pk (π x)<pk (π y):=o
  rw [List.pairwise_reverse] at o2
  rw [List.pairwise_map]
  exact o2.imp fun{a b} h=>I6 (T.small _) (T.small _) (Int.le_of_lt h)
 have pm:(bs.map (fun a=>(π a).1)++drop.mergeSort fun a b=>decide (b≤a)).Perm ns:=by
  have:=T.perm
  rw [List.take_length] at this
  exact(((p.map _).append (List.mergeSort_perm _ _))).trans this
 have o3:(drop.mergeSort fun a b=>decide (b≤a)).Pairwise (· ≥ ·):=by
  have:=List.pairwise_mergeSort (le:=fun a b:Int=>decide (b≤a)) (fun a b c h1 h2=>by simp at*;exact Ar.q572 h1 h2) (fun a b=>by simp;exact Ar.q307) drop
  exact this.imp fun h=>by simpa using h
 have o4:(bs.map (fun a=>(π a).1)++drop.mergeSort fun a b=>decide (b≤a)).Pairwise (· ≥ ·):=by
  refine List.pairwise_append.mpr ⟨o1,o3,fun a ha b hb=>?_⟩
  obtain⟨c,hc,rfl⟩:=List.mem_map.mp ha
  exact T.low b ((List.mergeSort_perm _ _).mem_iff.mp hb) c (p.mem_iff.mp hc)
 have e:bs.map (fun a=>(π a).1)++drop.mergeSort (fun a b=>decide (b≤a))=(srt ns).reverse:=by
  have:(bs.map (fun a=>(π a).1)++drop.mergeSort fun a b=>decide (b≤a)).reverse=srt ns:=Bk ((List.reverse_perm _).trans pm) (by rw [List.pairwise_reverse];exact o4)
  rw [←this,List.reverse_reverse]
 rw [←e,List.take_left']
 rw [List.length_map,p.length_eq,T.len]
noncomputable def BQ (π:Addr→Int×Int)(as:List Addr)(tl:List (Addr×Obj)):Prop:=∀a∈as,∃t u,(a,AT (.int (π a).1 t) (.int (π a).2 u))∈tl
theorem BQ.tup {π:Addr→Int×Int}{as:List Addr}{tl:List (Addr×Obj)}{h:Heap}(x:BQ π as tl)(k:∀q∈tl,h.get? q.1=some q.2):∀a∈as,Bc h a [(π a).1,(π a).2]:=fun a ha=>by
 obtain⟨t,u,hm⟩:=x a ha
 exact⟨_,0,k _ hm,.cons _ _ (.cons _ _ .nil)⟩
theorem JB {ns:List Int}{as:List Addr}{tl:List (Addr×Obj)}{h:Heap}(hlen:as.length=5)(htl:∀(j:Nat) a,as[j]?=some a→∃t u,(a,AT (.int (ns.getD j 0) t) (.int (-(j:Int)) u))∈tl)(k:∀q∈tl,h.get? q.1=some q.2):
  ∃π:Addr→Int×Int,(∀a,AK (π a))∧(∀(j:Nat) a,as[j]?=some a→π a=(ns.getD j 0,-(j:Int)))∧BQ π as tl:=by
 have h0:∀(j:Nat) a,as[j]?=some a→Jc (pairOf h a)=(ns.getD j 0,-(j:Int)):=fun j a e=>by
  obtain⟨t,u,hm⟩:=htl j a e
  have hj:j<5:=by
   rcases Nat.lt_or_ge j 5 with q|q
   ·exact q
   ·rw [List.getElem?_eq_none (by exact Ar.rle' ‹_› ‹_›)] at e;cases e
  have pa:Au h a (ns.getD j 0,-(j:Int)):=⟨t,u,0,k _ hm⟩
  rw [pa.pairOf,IV]
  unfold AK
  dsimp only
  exact Ar.r105 hj
 refine⟨fun a=>Jc (pairOf h a),fun a=>HE _,h0,fun a ha=>?_⟩
 obtain⟨j,hj⟩:=List.mem_iff_getElem?.mp ha
 obtain⟨t,u,hm⟩:=htl j a hj
 dsimp only
 rw [h0 j a hj]
 exact⟨t,u,hm⟩
theorem BQ.perm {π:Addr→Int×Int}{as bs:List Addr}{tl:List (Addr×Obj)}(x:BQ π as tl)(p:bs.Perm as):BQ π bs tl:=fun a ha=>x a (p.mem_iff.mp ha)
theorem AV.ne {ns:List Int}{π:Addr→Int×Int}{as:List Addr}{ord:Int}{i:Nat}{drop:List Int}(T:AV ns π as ord i drop):as.getD 0 0∈as:=AN (by rw [T.len];decide)
theorem Gq {a b c e:Addr×Obj}{tl base:List (Addr×Obj)}{p:Addr×Obj}(h:p∈c::e::((b::tl)++base)):p∈a::b::c::e::(tl++base):=
 Bj [2,3,1] 4 rfl h
theorem B8 {vs:List Value}{ns:List Int}(h:IntsAre vs ns)(n:Int)(t:Tok):IntsAre (vs++ [.int n t]) (ns++ [n]):=by
 induction h with
 |nil=>exact .cons n t .nil
 |cons m u r ih=>exact .cons m u ih
theorem EJ {l:Addr}{t:List (Addr×Obj)}(h:AllLt l t):∀p∈t,p.1≠l:=Jd h (Nat.le_refl _)
theorem LB {ns:List Int}{π:Addr→Int×Int}{bs:List Addr}{tl base:List (Addr×Obj)}{ord:Int}{i:Nat}{drop:List Int}{b:Addr}(T:AV ns π bs ord i drop)(hi:i<ns.length)(h64:ns.length<64)(htp:BQ π bs tl)(nb:∀p∈tl++base,p.1≠b)(h:(π (bs.getD 0 0)).1<ns.getD i 0):
  ∃π':Addr→Int×Int,π' b=(ns.getD i 0,ord)∧BQ π' bs tl∧AV ns π' (siftup (fun x y=>AI [(π' x).1,(π' x).2] [(π' y).1,(π' y).2]) 0 (bs.set 0 b)) (ord-1) (i+1) ((π (bs.getD 0 0)).1::drop)∧
   ∀t u,BQ π' (siftup (fun x y=>AI [(π' x).1,(π' x).2] [(π' y).1,(π' y).2]) 0 (bs.set 0 b)) ((b,AT (.int (ns.getD i 0) t) (.int ord u))::tl):=by
 have hb:b∉bs:=fun hm=>by
  obtain⟨t,u,hm⟩:=htp _ hm
  exact nb _ (List.mem_append_left _ hm) rfl
 have TR:=T.replace hi h64 hb h
 have old:∀a∈bs,(if a=b then(ns.getD i 0,ord) else π a)=π a:=fun a ha=>if_neg fun e=>hb (by rw [←e];exact ha)
 have htp':BQ (fun a=>if a=b then(ns.getD i 0,ord) else π a) bs tl:=fun a ha=>by
  dsimp only
  rw [old a ha]
  exact htp a ha
 refine⟨fun a=>if a=b then(ns.getD i 0,ord) else π a,if_pos rfl,htp',TR,fun t u a ha=>?_⟩
 have p1:(siftup (fun x y=>AI [(if x=b then(ns.getD i 0,ord) else π x).1,(if x=b then(ns.getD i 0,ord) else π x).2] [(if y=b then(ns.getD i 0,ord) else π y).1,(if y=b then(ns.getD i 0,ord) else π y).2]) 0 (bs.set 0 b)).Perm (bs.set 0 b):=by
  refine(Be (K:=fun a=>pk (if a=b then(ns.getD i 0,ord) else π a)) (fun a c=>Dw (TR.small a) (TR.small c)) (by rw [List.length_set,T.len];decide) fun j hj h0 hp=>?_).2
  rw [List.length_set] at hj
  k_extra "01N"
  have m1:bs.getD ((j-1)/2) 0∈bs:=AN (by exact Ar.par ‹_›)
  have m2:bs.getD j 0∈bs:=AN hj
  dsimp only
  rw [old _ m1,old _ m2]
  exact T.heap j hj h0 (Nat.zero_le _)
 rcases List.mem_or_eq_of_mem_set (p1.mem_iff.mp ha) with ha|rfl
 ·obtain⟨t',u',hm⟩:=htp' a ha
  exact⟨t',u',.tail _ hm⟩
 ·dsimp only
  rw [if_pos rfl]
  exact⟨t,u,.head _⟩
theorem Ds {g h:Heap}{L a:Addr}{o:Obj}{nw:List (Addr×Obj)}(N:News g L h nw)(hm:(a,o)∈nw):News g L h ((a,o)::nw):=fun p hp=>by
 k_extra "02"
 ·exact N _ hm
 ·exact N p hp
theorem PO {b c e q:Addr×Obj}{tl base:List (Addr×Obj)}(h:q∈b::tl):q∈b::c::e::(tl++base):=by
 rcases List.mem_cons.mp h with rfl|h
 ·exact .head _
 ·exact .tail _ (.tail _ (.tail _ (List.mem_append_left _ h)))
theorem AV.pknd {ns:List Int}{π:Addr→Int×Int}{as:List Addr}{ord:Int}{i:Nat}{drop:List Int}(T:AV ns π as ord i drop):(as.map fun a=>pk (π a)).Nodup:=by
 have nd:=T.nd
 rw [List.nodup_iff_pairwise_ne,List.pairwise_map] at nd⊢
 refine nd.imp fun{a b} hab e=>hab ?_
 have h1:=T.small a
 have h2:=T.small b
 unfold AK at h1 h2
 unfold pk at e
 exact Ar.r32 hab e h1 h2
theorem JV {π:Addr→Int×Int}{cs:List Addr}{i:Nat}{a:Addr}(e:cs[i]?=some a):(cs.take (i+1)).map (fun a=>(π a).1)=(cs.take i).map (fun a=>(π a).1)++ [(π a).1]:=by
 rw [List.take_add_one,e];simp
section
section
variable{w:World}{dp un:Nat}{fr:Option (List Env)}{gd:Option (List Code)}{s:Shared}{loose:List Str}{mz:ExcName→Option Value}{mg mb:Str→Option Value}{hb:Heap}{L:Addr}{m:Str→Option Value}
 {vs:List Value} {c d d':Addr} {b:Bool}
theorem Ic {t:Tok}{Q E:Value→Shared→Prop}(X:(Mine.hd.heap_39 w.params).In hb)(T:Top Mine.hd.view_39 loose mz mg mb hb)(hd:dp≤800)(hc0:hb.get? c=none)(F0:Fr hb L s.heap m)
  (hl:s.heap.IsList d vs.toArray) (hc:s.heap.get? c=some (Bp d' 0 t b)) (hd':s.heap.get? d'=some (dictOf [] 0))
  (h:∀z li TI TO h' tk,CA vs z li c TI TO d d' b h' 0→s.heap.get? z=none→s.heap.get? li=none→s.heap.get? TO=none→(∀b o,s.heap.get? b=some o→h'.get? b=some o)→Q (.ref z) {s with heap:=h',toks:=tk}):
  wpAny (model PR w) (AR dp un fr gd) (call (.type "zip") [.ref d,.ref c]) Q E s:=by
 k_extra "0A"
 refine wpAny_pyIter_list hl ?_
 have F1:=F0.push {cls:=.type "list_iterator",data:=.fields #[.ref d,.int 0 0]}
 have p1:∀b o,s.heap.get? b=some o→(s.heap.push {cls:=.type "list_iterator",data:=.fields #[.ref d,.int 0 0]}).get? b=some o:=fun b o e=>Heap.get?_push_of_some _ e
 have eli:(s.heap.push {cls:=.type "list_iterator",data:=.fields #[.ref d,.int 0 0]}).get? s.heap.objs.size=some {cls:=.type "list_iterator",data:=.fields #[.ref d,.int 0 0]}:=Heap.get?_push_size _ rfl
 refine owit_iter (f:=176) (C:=194) (od:=some (dictOf [] 0)) (s:={s with heap:=s.heap.push {cls:=.type "list_iterator",data:=.fields #[.ref d,.int 0 0]}}) F1 X ⟨p1 _ _ hc,rfl,rfl,p1 _ _ hd'⟩ (by k_is) (by k_is) ?_
 refine HB (s:={s with heap:=s.heap.push {cls:=.type "list_iterator",data:=.fields #[.ref d,.int 0 0]}}) F1.keep X T hd (p1 _ _ hc) hc0 fun h2 tk2 k2=>?_
 have hG:s.heap.objs.size<h2.objs.size:=Heap.lt_size (k2 _ _ eli)
 refine owit_it (C:=194) (od:=some (dictOf [] 0)) (s:={s with heap:=h2,toks:=tk2}) (F1.kept k2) X ⟨k2 _ _ (p1 _ _ hc),rfl,rfl,k2 _ _ (p1 _ _ hd')⟩ (g:=.ref 183) (by k_is) ?_
 have g0:∀(o1 o2 o3:Obj) (b:Addr) (o:Obj),h2.get? b=some o→(((h2.push o1).push o2).push o3).get? b=some o:=fun o1 o2 o3 b o e=>Heap.get?_push_of_some _ (Heap.get?_push_of_some _ (Heap.get?_push_of_some _ e))
 have z1:∀o1:Obj,(h2.push o1).objs.size=h2.objs.size+1:=fun _=>Heap.size_push ..
 have z2:∀o1 o2:Obj,((h2.push o1).push o2).objs.size=h2.objs.size+2:=fun _ _=>by rw [Heap.size_push,z1]
 have wsd:∀(tt:Obj) (to:Obj) (zo:Obj),tt.isFreed=false→to.isFreed=false→zo.isFreed=false→(((h2.push tt).push to).push zo).get? h2.objs.size=some tt∧(((h2.push tt).push to).push zo).get? (h2.objs.size+1)=some to∧(((h2.push tt).push to).push zo).get? (h2.objs.size+2)=some zo:=fun tt to zo f1 f2 f3=>
  ⟨Heap.get?_push_of_some _ (Heap.get?_push_of_some _ (Heap.get?_push_size _ f1)),by rw [←z1 tt];exact Heap.get?_push_of_some _ (Heap.get?_push_size _ f2),by rw [←z2 tt to];exact Heap.get?_push_size _ f3⟩
 obtain⟨q1,q2,q3⟩:=wsd (AT (.ref s.heap.objs.size) (.ref c)) (AT .none .none) (BO .none false h2.objs.size (h2.objs.size+1)) rfl rfl rfl
 have fresh:∀a,s.heap.objs.size≤a→s.heap.get? a=none:=fun a ha=>Heap.get?_none_of_le ha
 refine⟨⟨_,q3,rfl⟩,?_⟩
 refine h (h2.objs.size+2) s.heap.objs.size h2.objs.size (h2.objs.size+1) _ tk2 ⟨⟨_,g0 _ _ _ _ _ (k2 _ _ eli),rfl,rfl⟩,IsList.keep' hl fun o e=>g0 _ _ _ _ _ (k2 _ _ (p1 _ _ e)),⟨t,g0 _ _ _ _ _ (k2 _ _ (p1 _ _ hc))⟩,g0 _ _ _ _ _ (k2 _ _ (p1 _ _ hd')),q1,⟨_,_,q2⟩,Nat.ne_of_lt (Nat.lt_succ_self _),.inl ⟨_,q3⟩⟩ (fresh _ (by exact Ar.r221 hG)) (fresh _ (Nat.le_refl _)) (fresh _ (by exact Nat.le_succ_of_le (Nat.le_of_lt hG))) fun b o e=>g0 _ _ _ _ _ (k2 _ _ (p1 _ _ e))
end
end
section
section
variable{w:World}{dp un:Nat}{gd:Option (List Code)}{s:Shared}{loose:List Str}{mz:ExcName→Option Value}{mg mb:Str→Option Value}{Q E:Value→Shared→Prop}{base:Heap}{ou:List Env}
theorem kw_W09_1:True:=by
 k_with "Mcall builtin:next"=>((fail_if_success k_extra "oW09");refine Stop.at ?_)
 k_with "MnoteFrame ref"=>((fail_if_success k_extra "oW09");refine Stop.at ?_)
 trivial
theorem Hw {I D:Addr}{k:Nat}{items:Array Value}{x:Value}{oI:Obj}(S:Ae base ou s.heap)(X:(Mine.hd.heap_39 w.params).In base)(T:Top Mine.hd.view_39 loose mz mg mb base)
  (hd:dp≤800) (hI:s.heap.get? I=some oI) (hi:s.heap.IsListIter I D k) (hi0:base.get? I=none) (hl:s.heap.IsList D items) (hx:items[k]?=some x)
  (h:∀h' tk' R,(∀b o,s.heap.get? b=some o→b≠I→h'.get? b=some o)→h'.IsListIter I D (k+1)→h'.get? R=some (AT (.bool true) x)→s.heap.get? R=none→Q (.ref R) {s with heap:=h',toks:=tk'}):
  wpAny (model PR w) (AR dp un (some ou) gd) (call (.ref 48) [.ref I]) Q E s:=by
 revert w dp un gd s loose mz mg mb Q E base ou I D k items x oI
 as_aux_lemma=>
 intro pick_ w dp un gd s loose mz mg mb Q E base ou I D k items x oI
 intro S X T hd hI hi hi0 hl hx h
 k_extra "0D"
 k_extra "01j"
 (case m=>(intro q hq;cases hq with|head=>(obtain⟨o,e,_,d⟩:=id hi;rw [e] at hI;cases hI;exact⟨e,hi0,Bv S.frames e d⟩)|tail _ hq=>cases hq))
 k_extra "00"
 k_extra "0v"
 dsimp only
 k_extra "0h"
 k_fold
 k_steps
 k_extra "0e"
 k_extra "0a"
 intro clo_ tk
 k_extra "03"
 have nDI:D≠I:=by
  obtain⟨o,e,c,_⟩:=hi
  obtain⟨o',e',c',_⟩:=hl
  k_extra "02Y"
 have hi5:h₁.IsListIter I D k:=by obtain⟨o,e,r⟩:=hi;rw [e] at hI;cases hI;exact⟨_,(N5 _ (.head _)).1,r⟩
 have hl5:h₁.IsList D items:=by obtain⟨o,e,r⟩:=hl;exact⟨o,F5.keep _ _ (keep _ _ e (by simp [nDI])),r⟩
 refine E6 hi5 hl5 hx fun h6 hi6 hs6=>?_
 have F6:=F5.change hs6 (N5 _ (.head _)).2.1 (N5 _ (.head _)).2.2
 intro clo_ h6 p_ hi6 hs6 F6
 obtain⟨o6,e6,c6⟩:=id hi6
 have N6:News g L' h6 [(I,o6)]:=fun p hp=>by
  k_extra "02"
  ·exact⟨e6,(N5 _ (.head _)).2⟩
  ·cases hp
 clear F5 N5
 intro clo_ o6 p_ e6 c6 N6
 k_steps
 k_extra "022"
 k_extra "01b"
 refine h _ _ _ (fun b o e hb=>F7.keep b o (keep b o e (by simp [hb]))) ⟨o6,(N7 _ mm1).1,c6⟩ (N7 _ (.head _)).1 (Cf fun o e=>?_)
 have nI:_≠I:=Nat.ne_of_gt (by assumption)
 have:=keep _ _ e (by simp [nI])
 rw [(N7 _ (.head _)).2.2] at this
 cases this
theorem I0 {I D:Addr}{k:Nat}{items:Array Value}{oI:Obj}(S:Ae base ou s.heap)(X:(Mine.hd.heap_39 w.params).In base)(T:Top Mine.hd.view_39 loose mz mg mb base)
  (hd:dp≤800) (hI:s.heap.get? I=some oI) (hi:(s.heap.IsListIter I D k∧s.heap.IsList D items∧items[k]?=none)∨Ay s.heap I) (hi0:base.get? I=none)
  (h:∀h' tk' R,Up (AF ou) [I] s.heap h'→Ay h' I→h'.get? R=some (AT (.bool false) .none)→s.heap.get? R=none→Q (.ref R) {s with heap:=h',toks:=tk'}):
  wpAny (model PR w) (AR dp un (some ou) gd) (call (.ref 48) [.ref I]) Q E s:=by
 revert w dp un gd s loose mz mg mb Q E base ou I D k items oI
 as_aux_lemma=>
 intro pick_ w dp un gd s loose mz mg mb Q E base ou I D k items oI
 intro S X T hd hI hi hi0 h
 have cI:oI.cls= .type "list_iterator"∧∃fs,oI.data= .fields fs:=by
  k_extra "05j"
  ·k_extra "01k"
  ·k_extra "01d"
 k_extra "0D"
 k_extra "01j"
 (case m=>(intro q hq;cases hq with|head=>(obtain⟨_,d⟩:=cI.2;exact⟨hI,hi0,Bv S.frames hI d⟩)|tail _ hq=>cases hq))
 k_extra "00"
 k_extra "0v"
 dsimp only
 k_extra "0h"
 k_fold
 k_steps
 k_extra "0e"
 k_extra "0a"
 intro clo_ tk
 k_extra "03"
 have fin:∀h₁' h' e,Ay h₁' I→Heap.SameBut I h₁ h₁'→Heap.NewExc h₁' h' e "StopIteration"→Fr g L' h₁' (fun y=>List.lookup y [(Str.ofString "it",Value.ref I)].reverse)∧(∃o z,News g L' h₁' [(I,o)]∧o.cls= .type "list_iterator"∧o.data= .fields #[.none,z])∧Heap.NewExc h₁' h' e "StopIteration":=fun h₁' h' e hL hs hn=>by
  obtain⟨o,z,e',c,d⟩:=hL
  refine⟨F5.change hs (N5 _ (.head _)).2.1 (N5 _ (.head _)).2.2,⟨o,z,fun p hp=>?_,c,d⟩,hn⟩
  k_extra "02"
  ·exact⟨e',(N5 _ (.head _)).2⟩
  ·cases hp
 have both:∀{Q' E':Value→Shared→Prop} {A':Around} {s':Shared},A'.handled=none→s'.heap=h₁→(∀h₁' h' e,Ay h₁' I→Heap.SameBut I h₁ h₁'→Heap.NewExc h₁' h' e "StopIteration"→E' (.ref e) {s' with heap:=h'})→wpAny (model PR w) A' (call (.builtin "next") [.ref I]) Q' E' s':=fun{Q' E' A' s'} hh es k=>by
  subst es
  rcases hi with⟨hi,hl,hx⟩|hi
  ·have nDI:D≠I:=by
    obtain⟨o,e,c,_⟩:=hi
    obtain⟨o',e',c',_⟩:=hl
    k_extra "02Y"
   exact Ft hh (by obtain⟨o,e,r⟩:=hi;rw [e] at hI;cases hI;exact⟨_,(N5 _ (.head _)).1,r⟩) (by obtain⟨o,e,r⟩:=hl;exact⟨o,F5.keep _ _ (keep _ _ e (by simp [nDI])),r⟩) hx k
  ·obtain⟨o,z,e,r⟩:=hi
   rw [e] at hI;cases hI
   exact EU hh ⟨_,z,(N5 _ (.head _)).1,r⟩ fun h' e' hn=>k _ _ _ ⟨_,z,(N5 _ (.head _)).1,r⟩ (Heap.SameBut.refl _ _) hn
 refine both rfl rfl fun h₁' h' e a1 a2 a3=>?_
 intro clo_ h₁' h' e p_ a1 a2 a3
 obtain⟨F6,⟨o6,z6,N6,c6,d6⟩,hn6⟩:=fin h₁' h' e a1 a2 a3
 clear F5 N5 fin both a1 a2 a3
 intro clo_ o6 z6 p_ N6 c6 d6
 k_steps
 k_extra "03"
 refine' GM (T':= "StopIteration") (X:= "StopIteration") B' F6 N6 hn6 X T Dt ?ex PyProof.Rows.Boot.«StopIteration» ?hn Gv ET ?hs ?_
 case ex=>k_is
 case hn=>decide
 case hs=>rw [isSubtype_type];kernel_rfl
 intro h7 g7 T7 F7 N7 B7 X7 P7 D7
 clear F6 N6 hn6
 intro clo_ h7 g7 p_ T7 F7 N7 B7 X7 P7 D7
 k_steps
 k_extra "0S"
 k_extra "0C"
 have U:=Jm (mu:= [(I,oI)]) keep T7 F8
 intro clo_ tk
 refine h _ _ _ U ⟨o6,z6,(N8 _ mm1).1,c6,d6⟩ (N8 _ (.head _)).1 (Cf fun o e=>?_)
 have nI:_≠I:=Nat.ne_of_gt (by assumption)
 have e7:=keep _ _ e (by simp [nI])
 intro clo_ o p_ e e7
 obtain⟨sl,e8⟩:=T7.up e7
 rw [(N8 _ (.head _)).2.2] at e8
 cases e8
end
theorem kw_W09_e:True:=by
 k_with "oW09"=>skip
 trivial
end
section
section
variable{w:World}{dp un:Nat}{fr:Option (List Env)}{gd:Option (List Code)}{s:Shared}{loose:List Str}{mz:ExcName→Option Value}{mg mb:Str→Option Value}{Q E:Value→Shared→Prop}{hb:Heap}
theorem C9 {x y:Int}{t u:Tok}(ht:t≠0)(hu:u≠0)(htu:t=u→x=y)(kb:hb.StaysIn s.heap)(X:(Mine.hd.heap_39 w.params).In hb)(T:Top Mine.hd.view_39 loose mz mg mb hb)
  (hd:dp≤800) (h:∀h' tk',(∀b o,s.heap.get? b=some o→h'.get? b=some o)→Q (.bool (decide (x=y))) {s with heap:=h',toks:=tk'}):
  wpAny (model PR w) (AR dp un fr gd) (call (.ref 55) [.int x t,.int y u]) Q E s:=by
 revert w dp un fr gd s loose mz mg mb Q E hb x y t u
 as_aux_lemma=>
 intro pick_ w dp un fr gd s loose mz mg mb Q E hb x y t u
 intro ht hu htu kb X T hd h
 k_extra "0D"
 refine' Ag (binds:= [(Str.ofString "a",.int x t),(Str.ofString "b",.int y u)]) [] kb X T ?m ?k6 ?k7 ?k8 ?k9 ?kB ?_ ?c2 ?c3 ?c4 ?c5
 k_extra "03D"
 k_extra "00"
 k_extra "0f"
 dsimp only
 k_extra "0g"
 k_fold
 k_steps
 k_extra "0e"
 intro clo_ tk
 refine KE (X'.keeps F5.keep) (by k_is) ht hu htu fun b hb=>?_
 have fin:∀(c:Bool) h' tk',c=decide (x=y)→Fr g L' h' (fun z=>List.lookup z [(Str.ofString "a",Value.int x t),(Str.ofString "b",Value.int y u)].reverse)→Q (.bool c) {s with heap:=h',toks:=tk'}:=fun c h' tk' e F6=>by
  subst e
  exact h h' tk' fun b o e=>F6.keep b o (keep b o e (by simp))
 cases b with
 |true=>
  have exy:=hb rfl
  k_steps
  k_extra "0G"
  exact fin true _ _ (by simp [exy]) F6
 |false=>
  k_steps
  ·rename x=y=>e
   k_extra "0G"
   exact fin true _ _ (by simp [e]) F6
  ·rename ¬x=y=>e
   k_extra "0G"
   exact fin false _ _ (by simp [e]) F6
noncomputable abbrev BH (d' T0:Addr):Obj:={cls:=.ref 239,dict:=some d',slots:= #[some (.ref T0)]}
end
end
section
theorem kw_W11_1:True:=by
 k_with "ar"=>((fail_if_success k_extra "oW11");with_reducible first|assumption|exact Ne.symm ‹_›|exact Int.ofNat_lt.mpr ‹_›|exact Nat.zero_le _|exact Int.natCast_nonneg _|exact Ar.r237 ‹_›)
 trivial
noncomputable def KeyAt (h:Heap)(a:Addr)(k:Int)(t:Tok):Prop:=∃w n,h.get? a=some (seqObj "tuple" #[.int k t,w] n)
noncomputable abbrev gbO (d:Addr)(cg ck cv:Value)(hck hcv htk:Bool)(I y:Addr)(ser tk:Value):Obj:={cls:=.ref 96,dict:=some d,slots:= #[some cg,some ck,some cv,some (.bool hck),some (.bool hcv),some (.bool htk),some (.ref I),some (.ref y),some ser,some tk]}
section
variable{w:World}{dp un:Nat}{gd:Option (List Code)}{s:Shared}{loose:List Str}{mz:ExcName→Option Value}{mg mb:Str→Option Value}{Q E:Value→Shared→Prop}{base:Heap}{ou:List Env}
theorem kw_W11_2:True:=by
 k_with "Mcall ref"=>((fail_if_success k_extra "oW11");((with_reducible show wpAny _ _ (call (Value.ref 48) _ _) _ _ _);refine Stop.at ?_))
 k_with "MgetMethod ref"=>((fail_if_success k_extra "oW11");(k_here;k_dflt (refine' DW ?k1 ?k2 ?k3 ?k4 ?k5 ?k6 ?k7 ?_;(case k1=>k_asm);(case k2=>k_asm);(case k3=>k_inst);(case k4=>k_is);(case k5=>k_is);(case k6=>k_is);(case k7=>first|rfl|decide);k_whole)))
 trivial
theorem Ef {x d I D y d2 T0 a:Addr}{k:Nat}{as:List Addr}{oI:Obj}{cg ck cv ser tgk v w':Value}{hck hcv htk:Bool}{t0:Tok}{na:Nat}(S:Ae base ou s.heap)(X:(Mine.hd.heap_39 w.params).In base)(T:Top Mine.hd.view_39 loose mz mg mb base)
  (hd:dp≤700) (hx:s.heap.get? x=some (gbO d cg ck cv hck hcv htk I y ser tgk)) (hdd:s.heap.get? d=some (dictOf [] 0)) (hI:s.heap.get? I=some oI) (hi:s.heap.IsListIter I D k) (hl:s.heap.IsList D (as.map Value.ref).toArray)
  (hy:s.heap.get? y=some (BH d2 T0)) (hd2:s.heap.get? d2=some (dictOf [] 0)) (hT:s.heap.get? T0=some {cls:=.type "tuple",data:=.seq #[.int 0 t0]}) (ha:s.heap.get? a=some (seqObj "tuple" #[v,w'] na)) (hk:as[k]?=some a)
  (b1:base.get? x=none) (b2:base.get? d=none) (b3:base.get? I=none) (b4:base.get? y=none) (b5:base.get? d2=none) (b6:base.get? T0=none) (b7:base.get? a=none) (f1:d∉AF ou) (f2:d2∉AF ou)
  (h:∀h' tk',(∀b o,s.heap.get? b=some o→b≠x→b≠I→h'.get? b=some o)→h'.IsListIter I D (k+1)→h'.get? x=some (gbO d cg v (.ref a) true true htk I y ser tgk)→Q .none {s with heap:=h',toks:=tk'}):
  wpAny (model PR w) (AR dp un (some ou) gd) (call (.ref 85) [.ref x]) Q E s:=by
 revert w dp un gd s loose mz mg mb Q E base ou x d I D y d2 T0 a k as oI cg ck cv ser tgk v w' hck hcv htk t0 na
 as_aux_lemma=>
 intro pick_ w dp un gd s loose mz mg mb Q E base ou x d I D y d2 T0 a k as oI cg ck cv ser tgk v w' hck hcv htk t0 na
 intro S X T hd hx hdd hI hi hl hy hd2 hT ha hk b1 b2 b3 b4 b5 b6 b7 f1 f2 h
 obtain⟨oI',eI,cI,dI⟩:=id hi
 rw [hI] at eI
 cases eI
 have nf:∀{b:Addr} {o:Obj},s.heap.get? b=some o→(∀es n,o.data≠.dict es n)→b∉AF ou:=fun{b o} e n m=>by
  k_extra "0M"
  k_extra "03O"
  exact n _ _ d'
 k_extra "0D"
 refine' Am (binds:= [(Str.ofString "self",.ref x)]) [(x,gbO d cg ck cv hck hcv htk I y ser tgk),(d,dictOf [] 0),(I,oI),(y,BH d2 T0),(d2,dictOf [] 0),(T0,{cls:=.type "tuple",data:=.seq #[.int 0 t0]}),(a,seqObj "tuple" #[v,w'] na)] S X T ?m ?k6 ?k7 ?k8 ?k9 ?kB ?_ ?c2 ?c3 ?c4 ?c5
 (case m=>(intro q hq;simp only [List.mem_cons,List.not_mem_nil,or_false] at hq;rcases hq with rfl|rfl|rfl|rfl|rfl|rfl|rfl<;>first|exact⟨by assumption,by assumption,by assumption⟩|exact⟨by assumption,by assumption,nf (by assumption) (fun es n q=>by first|(rw [dI] at q;cases q)|cases q)⟩))
 k_extra "00"
 k_extra "0v"
 dsimp only
 k_extra "0h"
 k_fold
 k_steps
 k_extra "0e"
 k_extra "0a"
 intro clo_ tk
 k_extra "03"
 obtain⟨oD,eD,cD,rD⟩:=id hl
 have nD:D∉ [x,d,I,y,d2,T0,a]:=by
  k_extra "0H"
  exact⟨ocl eD hx cD rfl rfl,ocl eD hdd cD rfl rfl,ocl eD hI (by first|exact cD|exact cI) (by first|exact cD|exact cI) rfl,ocl eD hy cD rfl rfl,ocl eD hd2 cD rfl rfl,ocl eD hT cD rfl rfl,ocl eD ha cD rfl rfl⟩
 k_extra "02q"
 k_extra "02h"
 have n3:@Ne Nat y I:=ocl hy hI rfl cI rfl
 have n4:@Ne Nat d2 I:=ocl hd2 hI rfl cI rfl
 have n5:@Ne Nat T0 I:=ocl hT hI rfl cI rfl
 have n6:@Ne Nat a I:=ocl ha hI rfl cI rfl
 k_extra "017"
 have m2:@Ne Nat x y:=ocl hx hy rfl rfl rfl
 have m3:@Ne Nat x d2:=ocl hx hd2 rfl rfl rfl
 have m4:@Ne Nat x T0:=ocl hx hT rfl rfl rfl
 have m5:@Ne Nat x a:=ocl hx ha rfl rfl rfl
 have lD:h₁.get? D=some oD:=F5.keep _ _ (keep _ _ eD nD)
 intro clo_ oD p_ eD cD rD lD
 refine Hw (Ah B' Dt F5) X T (show dp+1≤800 by exact Ar.up ‹_› (by rfl)) (N5 _ mm2).1 ⟨oI,(N5 _ mm2).1,cI,dI⟩ b3 ⟨oD,lD,cD,rD⟩ (x:=.ref a) (by simp [hk]) fun h6 tk6 R6 k6 i6 e6 fr6=>?_
 intro clo_ h6 tk6 R6 p_ k6 i6 e6 fr6
 obtain⟨o6,eI6,cI6⟩:=id i6
 intro clo_ o6 p_ eI6 cI6
 obtain⟨F6,N6⟩:=after F5 N5 (Upd.tail n1 (Upd.tail n2 (Upd.head (o':=o6) (by intro p hp;simp only [List.mem_cons,List.not_mem_nil,or_false] at hp;rcases hp with rfl|rfl|rfl|rfl<;>assumption)))) (fun b o e q=>k6 b o e q) eI6
 have N7:=Al F5 N6 fr6 e6
 have q1:@Ne Nat R6 x:=fun q=>by rw [q,(N5 _ (.head _)).1] at fr6;cases fr6
 clear F5 N5 N6 fr6 e6
 k_steps
 k_extra "0S"
 k_extra "0C"
 intro clo_ tk
 refine h _ _ (fun b o e h1 h2=>CF [x,I] keep F8.keep ?_ ?_ b o e (by simp [h1,h2])) ⟨o6,(N8 _ mm3).1,cI6⟩ (N8 _ mm1).1
 ·intro clo_ b o p_ e h1 h2
  intro q hq
  k_extra "01"
  k_extra "058"
  rcases hq with rfl|rfl|rfl|rfl|rfl|rfl|rfl<;>assumption
 ·intro clo_ b o p_ e h1 h2
  intro q hq hw
  k_extra "01"
  intro clo_ q p_ hw hq
  rcases hq with rfl|rfl|rfl|rfl|rfl|rfl|rfl
  ·k_extra "05e"
  ·exact(N8 _ mm2).1
  ·exact absurd mm1 hw
  ·exact(N8 _ mm4).1
  ·exact(N8 _ mm5).1
  ·exact(N8 _ mm6).1
  ·exact(N8 _ mm7).1
theorem kw_W11_e:True:=by
 k_with "oW11"=>skip
 trivial
theorem kw_W12_1:True:=by
 k_with "Mcall ref"=>((fail_if_success k_extra "oW12");((with_reducible show wpAny _ _ (call (Value.ref 48) _ _) _ _ _);refine Stop.at ?_))
 trivial
theorem FY {x d I D y:Addr}{k:Nat}{as:List Addr}{oI:Obj}{cg ck cv ser tgk:Value}{hck hcv htk:Bool}(S:Ae base ou s.heap)(X:(Mine.hd.heap_39 w.params).In base)(T:Top Mine.hd.view_39 loose mz mg mb base)
  (hd:dp≤700) (hx:s.heap.get? x=some (gbO d cg ck cv hck hcv htk I y ser tgk)) (hdd:s.heap.get? d=some (dictOf [] 0)) (hI:s.heap.get? I=some oI) (hi:(s.heap.IsListIter I D k∧s.heap.IsList D (as.map Value.ref).toArray∧as[k]?=none)∨Ay s.heap I)
  (b1:base.get? x=none) (b2:base.get? d=none) (b3:base.get? I=none) (f1:d∉AF ou)
  (h:∀h' tk' e o6 z6,o6.cls= .type "list_iterator"→o6.data= .fields #[.none,z6]→CN base ou (hideAll s.heap [x,d,I]) [(x,gbO d cg ck cv hck hcv htk I y ser tgk),(d,dictOf [] 0),(I,o6)] e h'→E (.ref e) {s with heap:=h',toks:=tk'}):
  wpAny (model PR w) (AR dp un (some ou) gd) (call (.ref 85) [.ref x]) Q E s:=by
 revert w dp un gd s loose mz mg mb Q E base ou x d I D y k as oI cg ck cv ser tgk hck hcv htk
 as_aux_lemma=>
 intro pick_ w dp un gd s loose mz mg mb Q E base ou x d I D y k as oI cg ck cv ser tgk hck hcv htk
 intro S X T hd hx hdd hI hi b1 b2 b3 f1 h
 have cI:oI.cls= .type "list_iterator"∧∃fs,oI.data= .fields fs:=by
  k_extra "05j"
  ·k_extra "01k"
  ·k_extra "01d"
 obtain⟨cI,fI,dI⟩:=cI
 have nf:∀{b:Addr} {o:Obj},s.heap.get? b=some o→(∀es n,o.data≠.dict es n)→b∉AF ou:=fun{b o} e n m=>by
  k_extra "0M"
  k_extra "03O"
  exact n _ _ d'
 intro clo_ fI p_ dI
 k_extra "0D"
 refine' Am (binds:= [(Str.ofString "self",.ref x)]) [(x,gbO d cg ck cv hck hcv htk I y ser tgk),(d,dictOf [] 0),(I,oI)] S X T ?m ?k6 ?k7 ?k8 ?k9 ?kB ?_ ?c2 ?c3 ?c4 ?c5
 k_extra "05"
 k_extra "00"
 k_extra "0v"
 dsimp only
 k_extra "0h"
 k_fold
 k_steps
 k_extra "0e"
 k_extra "0a"
 intro clo_ tk
 k_extra "03"
 have hi5:(h₁.IsListIter I D k∧h₁.IsList D (as.map Value.ref).toArray∧(as.map Value.ref).toArray[k]?=none)∨Ay h₁ I:=by
  rcases hi with⟨hi,hl,hk⟩|hi
  ·obtain⟨oD,eD,cD,rD⟩:=hl
   have nD:D∉ [x,d,I]:=by
    k_extra "0H"
    k_extra "014"
   obtain⟨o,e,r⟩:=hi
   rw [hI] at e;cases e
   exact .inl ⟨⟨oI,(N5 _ mm2).1,r⟩,⟨oD,F5.keep _ _ (keep _ _ eD nD),cD,rD⟩,by simpa using hk⟩
  ·obtain⟨o,z,e,r⟩:=hi
   rw [hI] at e;cases e
   exact .inr ⟨oI,z,(N5 _ mm2).1,r⟩
 k_extra "02q"
 k_extra "02h"
 k_extra "017"
 refine I0 (Ah B' Dt F5) X T (show dp+1≤800 by exact Ar.up ‹_› (by rfl)) (N5 _ mm2).1 hi5 b3 fun h6 tk6 R6 U6 i6 e6 fr6=>?_
 intro clo_ h6 tk6 R6 p_ U6 i6 e6 fr6
 obtain⟨o6,z6,eI6,cI6,dI6⟩:=i6
 intro clo_ o6 z6 p_ eI6 cI6 dI6
 obtain⟨g6,T6,F6,B6,D6,k6⟩:=Fb B' Dt F5 N5 U6 (by
  intro q hq
  obtain rfl:q=I:=by simpa using hq
  exact⟨(N5 _ mm2).2.2,(N5 _ mm2).2.1⟩)
 have N6:News g6 L' h6 [(R6,AT (.bool false) .none),(x,gbO d cg ck cv hck hcv htk I y ser tgk),(d,dictOf [] 0),(I,o6)]:=by
  intro q hq
  k_extra "01"
  k_extra "04W"
  ·exact⟨e6,(CL F5 fr6).1,T6.none_ _ (CL F5 fr6).2⟩
  ·exact k6 _ (.head _) (by simpa using n1)
  ·exact k6 _ mm1 (by simpa using n2)
  ·exact⟨eI6,(N5 _ mm2).2.1,T6.none_ _ (N5 _ mm2).2.2⟩
 have X6:(Mine.hd.heap_39 w.params).In g6:=X.keeps B6.stays
 have P6:Top Mine.hd.view_39 loose mz mg mb g6:=T.keeps B6.stays
 clear F5 N5 fr6 e6 k6 U6 X' T' B' Dt
 intro clo_ g6 p_ T6 F6 B6 D6 N6 X6 P6
 k_steps
 rename RaisedS _ _ _ _ _ _ _ _ _=>R7
 rename Heap.UpToSlots _ _=>U7
 intro clo_ tk p_ x_
 refine h _ _ _ o6 z6 cI6 dI6 (Ee [x,d,I] rfl keep T6 R7 U7 ?_)
 intro q hq
 k_extra "01"
 k_extra "058"
 k_extra "05f"
end
theorem kw_W12_e:True:=by
 k_with "oW12"=>skip
 trivial
end
section
theorem kw_W13_1:True:=by
 k_with "ar"=>((fail_if_success k_extra "oW13");with_reducible first|assumption|exact Ne.symm ‹_›|exact Int.ofNat_lt.mpr ‹_›|exact Nat.zero_le _|exact Int.natCast_nonneg _|exact Ar.q61 ‹_› ‹_›|exact Ar.q63 ‹_› ‹_›|exact Ar.q72 ‹_› ‹_›|exact Ar.q80 ‹_› ‹_›|exact Ar.q92 ‹_› ‹_›|exact Ar.q62 ‹_› ‹_›|exact Ar.q79 ‹_› ‹_›|exact Ar.q114 ‹_›|exact Ar.q142 ‹_›|exact Ar.r233 ‹_›|exact Ar.r234 ‹_›|exact Ar.r322 ‹_›|k_extra "arN")
 trivial
noncomputable abbrev grO (dG:Addr)(num:Value)(x:Addr)(tgk:Value):Obj:={cls:=.ref 141,dict:=some dG,slots:= #[some num,some (.ref x),some tgk]}
section
variable{w:World}{dp un:Nat}{gd:Option (List Code)}{s:Shared}{loose:List Str}{mz:ExcName→Option Value}{mg mb:Str→Option Value}{Q E:Value→Shared→Prop}{base:Heap}{ou:List Env}
theorem kw_W13_2:True:=by
 k_with "Mcall ref"=>((fail_if_success k_extra "oW13");((with_reducible show wpAny _ _ (call (Value.ref 85) _ _) _ _ _);refine Stop.at ?_))
 k_with "Mcall ref"=>((fail_if_success k_extra "oW13");((with_reducible show wpAny _ _ (call (Value.ref 55) _ _) _ _ _);refine Stop.at ?_))
 k_with "Mexec While Constant cons nil"=>((fail_if_success k_extra "oW13");refine Stop.at ?_)
 trivial
theorem G4 {x d I y:Addr}{cg cv:Value}{kx ky ser:Int}{tx ty ts:Tok}(S:Ae base ou s.heap)(X:(Mine.hd.heap_39 w.params).In base)(T:Top Mine.hd.view_39 loose mz mg mb base)
  (hd:dp≤700) (hx:s.heap.get? x=some (gbO d cg (.int kx tx) cv true true true I y (.int ser ts) (.int ky ty))) (hdd:s.heap.get? d=some (dictOf [] 0)) (hne:ky≠kx) (ht1:tx≠0) (ht2:ty≠0) (htt:ty=tx→ky=kx)
  (b1:base.get? x=none) (b2:base.get? d=none) (f1:d∉AF ou)
  (hq:∀h' tk' R G dG t1 t2,(∀b o,s.heap.get? b=some o→b≠x→h'.get? b=some o)→h'.get? x=some (gbO d (.int (ser+1) t1) (.int kx tx) cv true true true I y (.int (ser+1) t1) (.int kx tx))→h'.get? R=some (AT (.int kx tx) (.ref G))→h'.get? G=some (grO dG (.int (ser+1) t2) x (.int kx tx))→h'.get? dG=some (dictOf [] 0)→
   s.heap.get? R=none→s.heap.get? G=none→s.heap.get? dG=none→Q (.ref R) {s with heap:=h',toks:=tk'}):
  wpAny (model PR w) (AR dp un (some ou) gd) (call (.ref 92) [.ref x]) Q E s:=by
 revert w dp un gd s loose mz mg mb Q E base ou x d I y cg cv kx ky ser tx ty ts
 as_aux_lemma=>
 intro pick_ w dp un gd s loose mz mg mb Q E base ou x d I y cg cv kx ky ser tx ty ts
 intro S X T hd hx hdd hne ht1 ht2 htt b1 b2 f1 hq
 have nf:∀{b:Addr} {o:Obj},s.heap.get? b=some o→(∀es n,o.data≠.dict es n)→b∉AF ou:=fun{b o} e n m=>by
  k_extra "0M"
  k_extra "03O"
  exact n _ _ d'
 k_extra "017"
 k_extra "0D"
 refine' Am (binds:= [(Str.ofString "self",.ref x)]) [(x,gbO d cg (.int kx tx) cv true true true I y (.int ser ts) (.int ky ty)),(d,dictOf [] 0)] S X T ?m ?k6 ?k7 ?k8 ?k9 ?kB ?_ ?c2 ?c3 ?c4 ?c5
 (case m=>(intro q hq;simp only [List.mem_cons,List.not_mem_nil,or_false] at hq;rcases hq with rfl|rfl<;>first|exact⟨by assumption,by assumption,by assumption⟩|exact⟨by assumption,by assumption,nf (by assumption) (fun es n q=>by cases q)⟩))
 k_extra "00"
 k_extra "0v"
 dsimp only
 k_extra "0h"
 k_fold
 k_steps
 k_extra "0e"
 k_extra "0a"
 intro clo_ tk p_ N5
 k_extra "03"
 refine CT (n₀:=0) (fun n m nw=>m=(fun y=>List.lookup y [(Str.ofString "self",Value.ref x)].reverse)∧nw= [(x,gbO d (.int 0 _) (.int kx tx) cv true true true I y (.int ser ts) (.int ky ty)),(d,dictOf [] 0)]) F5 N5 ⟨rfl,rfl⟩ ?_
 clear F5 N5
 k_extra "04w"
 intro clo_ n h₂ tk₂ p_ F₂ N₂
 k_steps
 k_extra "0G"
 k_extra "0x"
 intro clo_ tk p_ qk
 k_extra "03"
 refine C9 ht2 ht1 htt F6.keep X' T' (show dp+1≤800 by exact Ar.up ‹_› (by rfl)) fun h7 tk7 k7=>?_
 rw [decide_eq_false hne]
 have F7:=F6.kept k7
 have N7:=N6.grown k7
 clear F6 N6
 intro clo_ h7 tk7 p_ k7 F7 N7
 k_steps
 k_extra "0S"
 k_extra "0C"
 have fresh:∀{b:Addr},b≠x→b≠d→g.get? b=none→s.heap.get? b=none:=fun{b} e1 e2 e3=>Cf fun o e=>by
  have:=keep _ _ e (by simp [e1,e2])
  rw [e3] at this;cases this
 intro clo_ t h tk
 refine hq _ _ _ _ _ _ _ (fun b o e h1=>CF [x] keep F8.keep ?_ ?_ b o e (by simp [h1])) (N8 _ mm3).1 (N8 _ (.head _)).1 (N8 _ mm1).1 (N8 _ mm2).1
  (fresh (neN (by omega)) (neN (by omega)) (N8 _ (.head _)).2.2) (fresh (neN (by exact Ar.q79 ‹_› ‹_›)) (neN (by exact Ar.r194 ‹_› ‹_›)) (N8 _ mm1).2.2) (fresh (neN (by exact Ar.q142 ‹_›)) (neN (by exact Ar.r282 ‹_›)) (N8 _ mm2).2.2)
 ·intro clo_ b o p_ e h1
  intro q hq
  k_extra "01"
  k_extra "058"
  rcases hq with rfl|rfl<;>assumption
 ·intro clo_ b o p_ e h1
  intro q hq hw
  k_extra "01"
  intro clo_ q p_ hw hq
  k_extra "051"
  ·k_extra "05e"
  ·exact(N8 _ mm4).1
theorem GD {x d I D y d2 T0 a:Addr}{k:Nat}{as:List Addr}{oI:Obj}{cg ck cv tgk w':Value}{hcv:Bool}{kx ser:Int}{tx ts:Tok}{t0:Tok}{na:Nat}(S:Ae base ou s.heap)(X:(Mine.hd.heap_39 w.params).In base)(T:Top Mine.hd.view_39 loose mz mg mb base)
  (hd:dp≤600) (hx:s.heap.get? x=some (gbO d cg ck cv false hcv false I y (.int ser ts) tgk)) (hdd:s.heap.get? d=some (dictOf [] 0)) (hI:s.heap.get? I=some oI) (hi:s.heap.IsListIter I D k) (hl:s.heap.IsList D (as.map Value.ref).toArray)
  (hy:s.heap.get? y=some (BH d2 T0)) (hd2:s.heap.get? d2=some (dictOf [] 0)) (hT:s.heap.get? T0=some {cls:=.type "tuple",data:=.seq #[.int 0 t0]}) (ha:s.heap.get? a=some (seqObj "tuple" #[.int kx tx,w'] na)) (hk:as[k]?=some a)
  (b1:base.get? x=none) (b2:base.get? d=none) (b3:base.get? I=none) (b4:base.get? y=none) (b5:base.get? d2=none) (b6:base.get? T0=none) (b7:base.get? a=none) (f1:d∉AF ou) (f2:d2∉AF ou) (ndd:d≠d2)
  (hq:∀h' tk' R G dG t1 t2,(∀b o,s.heap.get? b=some o→b≠x→b≠I→h'.get? b=some o)→h'.IsListIter I D (k+1)→h'.get? x=some (gbO d (.int (ser+1) t1) (.int kx tx) (.ref a) true true true I y (.int (ser+1) t1) (.int kx tx))→h'.get? R=some (AT (.int kx tx) (.ref G))→h'.get? G=some (grO dG (.int (ser+1) t2) x (.int kx tx))→h'.get? dG=some (dictOf [] 0)→
   s.heap.get? R=none→s.heap.get? G=none→s.heap.get? dG=none→Q (.ref R) {s with heap:=h',toks:=tk'}):
  wpAny (model PR w) (AR dp un (some ou) gd) (call (.ref 92) [.ref x]) Q E s:=by
 revert w dp un gd s loose mz mg mb Q E base ou x d I D y d2 T0 a k as oI cg ck cv tgk w' hcv kx ser tx ts t0 na
 as_aux_lemma=>
 intro pick_ w dp un gd s loose mz mg mb Q E base ou x d I D y d2 T0 a k as oI cg ck cv tgk w' hcv kx ser tx ts t0 na
 intro S X T hd hx hdd hI hi hl hy hd2 hT ha hk b1 b2 b3 b4 b5 b6 b7 f1 f2 ndd hq
 obtain⟨oI',eI,cI,dI⟩:=id hi
 rw [hI] at eI
 cases eI
 have nf:∀{b:Addr} {o:Obj},s.heap.get? b=some o→(∀es n,o.data≠.dict es n)→b∉AF ou:=fun{b o} e n m=>by
  k_extra "0M"
  k_extra "03O"
  exact n _ _ d'
 k_extra "017"
 k_extra "02q"
 k_extra "02h"
 k_extra "0D"
 refine' Am (binds:= [(Str.ofString "self",.ref x)]) [(x,gbO d cg ck cv false hcv false I y (.int ser ts) tgk),(d,dictOf [] 0),(I,oI)] S X T ?m ?k6 ?k7 ?k8 ?k9 ?kB ?_ ?c2 ?c3 ?c4 ?c5
 k_extra "05"
 k_extra "00"
 k_extra "0v"
 dsimp only
 k_extra "0h"
 k_fold
 have mem3:∀{b:Addr},b∉ [x,d,I]↔b≠x∧b≠d∧b≠I:=by simp
 have kk:∀{b:Addr} {o:Obj},s.heap.get? b=some o→b≠x→b≠d→b≠I→g.get? b=some o:=fun{b o} e e1 e2 e3=>keep _ _ e (mem3.mpr ⟨e1,e2,e3⟩)
 obtain⟨oD,eD,cD,rD⟩:=id hl
 have gD:=kk eD (ocl eD hx cD rfl rfl) (ocl eD hdd cD rfl rfl) (ocl eD hI (by first|exact cD|exact cI) (by first|exact cD|exact cI) rfl)
 have gy:=kk hy (ocl hy hx rfl rfl rfl) (ocl hy hdd rfl rfl rfl) (ocl hy hI rfl cI rfl)
 have gd2:=kk hd2 (ocl hd2 hx rfl rfl rfl) ndd.symm (ocl hd2 hI rfl cI rfl)
 have gT:=kk hT (ocl hT hx rfl rfl rfl) (ocl hT hdd rfl rfl rfl) (ocl hT hI rfl cI rfl)
 have ga:=kk ha (ocl ha hx rfl rfl rfl) (ocl ha hdd rfl rfl rfl) (ocl ha hI rfl cI rfl)
 intro clo_ oD p_ eD cD rD gD
 k_steps
 k_extra "0e"
 k_extra "0a"
 k_extra "03"
 refine CT (n₀:=1) (fun n m nw=>m=(fun y=>List.lookup y [(Str.ofString "self",Value.ref x)].reverse)∧((n=1∧∃t0,nw= [(x,gbO d (.int 0 t0) ck cv false hcv false I y (.int ser ts) tgk),(d,dictOf [] 0),(I,oI)])∨
  (n=0∧∃t0 o6,nw= [(x,gbO d (.int 0 t0) (.int kx tx) (.ref a) true true false I y (.int ser ts) tgk),(d,dictOf [] 0),(I,o6)]∧o6.cls= .type "list_iterator"∧o6.data= .fields #[.ref D,.int (k+1:Nat) 0]))) F5 N5 ⟨rfl,.inl ⟨rfl,_,rfl⟩⟩ ?_
 clear F5 N5
 rintro n m₁ nw₁ h₂ tk₂ F₂ N₂ ⟨rfl,⟨rfl,tq,rfl⟩|⟨rfl,tq,o6,rfl,cI6,dI6⟩⟩
 ·intro clo_ h₂ tk₂ p_ F₂ d_ tq p_ N₂
  k_steps
  k_extra "0G"
  k_extra "0x"
  intro clo_ tk
  k_extra "03"
  k_extra "01H"
  k_extra "02i"
  have nfs2:d2∉L'::AF ou:=fun q=>(List.mem_cons.mp q).elim (fun e=>fne gd2 e) f2
  refine Ef (Ah B' Dt F6) X T (show dp+1≤700 by exact Ar.up ‹_› (by rfl)) (N6 _ (.head _)).1 (N6 _ mm1).1 (N6 _ mm2).1 ⟨oI,(N6 _ mm2).1,cI,dI⟩ ⟨oD,F6.keep _ _ gD,cD,rD⟩
   (F6.keep _ _ gy) (F6.keep _ _ gd2) (F6.keep _ _ gT) (F6.keep _ _ ga) hk b1 b2 b3 b4 b5 b6 b7 nfs nfs2 fun h7 tk7 k7 i7 e7=>?_
  intro clo_ h7 tk7 p_ k7 i7 e7
  obtain⟨o7,eI7,cI7,dI7⟩:=i7
  have F7:=BP F6 [x,I] (fun b o e hb=>k7 b o e (fun q=>hb (by rw [q];exact .head _)) fun q=>hb (by rw [q];exact .tail _ (.head _))) (by
   intro q hq
   k_extra "01"
   k_extra "051"
   ·k_extra "04F"
   ·exact⟨(N6 _ mm2).2.2,(N6 _ mm2).2.1⟩)
  have N7:News g L' h7 [(x,gbO d (.int 0 tq) (.int kx tx) (.ref a) true true false I y (.int ser ts) tgk),(d,dictOf [] 0),(I,o7)]:=by
   intro q hq
   k_extra "01"
   k_extra "053"
   ·exact⟨e7,(N6 _ (.head _)).2⟩
   ·exact⟨k7 _ _ (N6 _ mm1).1 (fun q=>m1 q.symm) n2,(N6 _ mm1).2⟩
   ·exact⟨eI7,(N6 _ mm2).2⟩
  clear F6 N6
  intro clo_ o7 p_ eI7 cI7 dI7 N7
  k_steps
  exact AZ.intro F7 N7 (n':=0) (by decide) ⟨rfl,.inr ⟨rfl,_,o7,rfl,cI7,dI7⟩⟩
 ·intro clo_ h₂ tk₂ p_ F₂ d_ tq o6 p_ N₂ cI6 dI6
  k_steps
  k_extra "0S"
  k_extra "0C"
  have fresh:∀{b:Addr},b≠x→b≠d→b≠I→g.get? b=none→s.heap.get? b=none:=fun{b} e1 e2 e3 e4=>Cf fun o e=>by
   have:=kk e e1 e2 e3
   rw [e4] at this;cases this
  intro clo_ tk
  refine hq _ _ _ _ _ _ _ (fun b o e h1 h2=>CF [x,I] keep F8.keep ?_ ?_ b o e (by simp [h1,h2])) ⟨o6,(N8 _ mm5).1,cI6,dI6⟩ (N8 _ mm3).1 (N8 _ (.head _)).1 (N8 _ mm1).1 (N8 _ mm2).1
   (fresh (neN (by omega)) (neN (by omega)) (neN (by omega)) (N8 _ (.head _)).2.2) (fresh (neN (by exact Ar.q62 ‹_› ‹_›)) (neN (by omega)) (neN (by omega)) (N8 _ mm1).2.2) (fresh (neN (by exact Ar.q114 ‹_›)) (neN (by omega)) (neN (by omega)) (N8 _ mm2).2.2)
  ·intro clo_ b o p_ e h1 h2
   intro q hq
   k_extra "01"
   k_extra "058"
   rcases hq with rfl|rfl|rfl<;>assumption
  ·intro clo_ b o p_ e h1 h2
   intro q hq hw
   k_extra "01"
   intro clo_ q p_ hw hq
   k_extra "053"
   ·k_extra "05e"
   ·exact(N8 _ mm4).1
   ·exact absurd mm1 hw
theorem kw_W13_e:True:=by
 k_with "oW13"=>skip
 trivial
theorem kw_W14_1:True:=by
 k_with "Mcall ref"=>((fail_if_success k_extra "oW14");((with_reducible show wpAny _ _ (call (Value.ref 85) _ _) _ _ _);refine Stop.at ?_))
 k_with "Mcall ref"=>((fail_if_success k_extra "oW14");((with_reducible show wpAny _ _ (call (Value.ref 55) _ _) _ _ _);refine Stop.at ?_))
 k_with "Mexec While Constant cons nil"=>((fail_if_success k_extra "oW14");refine Stop.at ?_)
 k_with "Mleaving ref"=>((fail_if_success k_extra "oW14");refine Stop.at ?_)
 trivial
theorem IF {x d I D y:Addr}{k:Nat}{as:List Addr}{oI:Obj}{cg ck cv ser tgk:Value}{hcv htk:Bool}(S:Ae base ou s.heap)(X:(Mine.hd.heap_39 w.params).In base)(T:Top Mine.hd.view_39 loose mz mg mb base)
  (hd:dp≤600) (hx:s.heap.get? x=some (gbO d cg ck cv false hcv htk I y ser tgk)) (hdd:s.heap.get? d=some (dictOf [] 0)) (hI:s.heap.get? I=some oI) (hi:(s.heap.IsListIter I D k∧s.heap.IsList D (as.map Value.ref).toArray∧as[k]?=none)∨Ay s.heap I)
  (b1:base.get? x=none) (b2:base.get? d=none) (b3:base.get? I=none) (f1:d∉AF ou)
  (hq:∀h' tk' e t0 o6 z6,o6.cls= .type "list_iterator"→o6.data= .fields #[.none,z6]→CN base ou (hideAll s.heap [x,d,I]) [(x,gbO d (.int 0 t0) ck cv false hcv htk I y ser tgk),(d,dictOf [] 0),(I,o6)] e h'→E (.ref e) {s with heap:=h',toks:=tk'}):
  wpAny (model PR w) (AR dp un (some ou) gd) (call (.ref 92) [.ref x]) Q E s:=by
 revert w dp un gd s loose mz mg mb Q E base ou x d I D y k as oI cg ck cv ser tgk hcv htk
 as_aux_lemma=>
 intro pick_ w dp un gd s loose mz mg mb Q E base ou x d I D y k as oI cg ck cv ser tgk hcv htk
 intro S X T hd hx hdd hI hi b1 b2 b3 f1 hq
 have cI:oI.cls= .type "list_iterator"∧∃fs,oI.data= .fields fs:=by
  k_extra "05j"
  ·k_extra "01k"
  ·k_extra "01d"
 obtain⟨cI,fI,dI⟩:=cI
 have nf:∀{b:Addr} {o:Obj},s.heap.get? b=some o→(∀es n,o.data≠.dict es n)→b∉AF ou:=fun{b o} e n m=>by
  k_extra "0M"
  k_extra "03O"
  exact n _ _ d'
 k_extra "017"
 k_extra "02q"
 k_extra "02h"
 intro clo_ fI p_ dI
 k_extra "0D"
 refine' Am (binds:= [(Str.ofString "self",.ref x)]) [(x,gbO d cg ck cv false hcv htk I y ser tgk),(d,dictOf [] 0),(I,oI)] S X T ?m ?k6 ?k7 ?k8 ?k9 ?kB ?_ ?c2 ?c3 ?c4 ?c5
 k_extra "05"
 k_extra "00"
 k_extra "0v"
 dsimp only
 k_extra "0h"
 k_fold
 k_steps
 k_extra "0e"
 k_extra "0a"
 intro clo_ tk p_ N5
 k_extra "03"
 refine CT (n₀:=0) (fun n m nw=>m=(fun y=>List.lookup y [(Str.ofString "self",Value.ref x)].reverse)∧nw= [(x,gbO d (.int 0 _) ck cv false hcv htk I y ser tgk),(d,dictOf [] 0),(I,oI)]) F5 N5 ⟨rfl,rfl⟩ ?_
 clear F5 N5
 k_extra "04w"
 intro clo_ n h₂ tk₂ p_ F₂ N₂
 k_steps
 k_extra "0G"
 k_extra "0x"
 intro clo_ tk
 k_extra "03"
 have hi6:(h₂.IsListIter I D k∧h₂.IsList D (as.map Value.ref).toArray∧as[k]?=none)∨Ay h₂ I:=by
  rcases hi with⟨hi,hl,hk⟩|hi
  ·obtain⟨oD,eD,cD,rD⟩:=hl
   have nD:D∉ [x,d,I]:=by
    k_extra "0H"
    k_extra "014"
   obtain⟨o,e,r⟩:=hi
   rw [hI] at e;cases e
   exact .inl ⟨⟨oI,(N6 _ mm2).1,r⟩,⟨oD,F6.keep _ _ (keep _ _ eD nD),cD,rD⟩,hk⟩
  ·obtain⟨o,z,e,r⟩:=hi
   rw [hI] at e;cases e
   exact .inr ⟨oI,z,(N6 _ mm2).1,r⟩
 k_extra "02i"
 refine FY (Ah B' Dt F6) X T (show dp+1≤700 by exact Ar.up ‹_› (by rfl)) (N6 _ (.head _)).1 (N6 _ mm1).1 (N6 _ mm2).1 hi6 b1 b2 b3 nfs fun h7 tk7 e7 o7 z7 c7 d7 R7=>?_
 k_extra "04O"
 obtain⟨t7,vs7,R7,U7⟩:=R7
 have F7:=BP (h':=hideAll h₂ [x,d,I]) F6 [x,d,I] (fun b o e hb=>hideAll_get _ e hb) (by
  intro q hq
  k_extra "01"
  k_extra "053"
  ·k_extra "04F"
  ·exact⟨(N6 _ mm1).2.2,(N6 _ mm1).2.1⟩
  ·exact⟨(N6 _ mm2).2.2,(N6 _ mm2).2.1⟩)
 clear F6 N6
 intro clo_ t7 vs7 p_ R7
 k_steps
 k_extra "03"
 show wpAny _ _ (leaving _ _) _ _ _
 refine leave_onS B' F7 R7 U7 fun h8 R8 _ U8=>?_
 intro clo_ h8 p_ R8 x_ U8
 refine hq _ _ _ _ o7 z7 c7 d7 (CC (mu:= [(x,gbO d cg ck cv false hcv htk I y ser tgk),(d,dictOf [] 0),(I,oI)]) [x,d,I] rfl keep KtsTurn.refl R8 U8 ?_)
 intro q hq
 k_extra "01"
 k_extra "058"
 k_extra "05f"
theorem kw_W14_e:True:=by
 k_with "oW14"=>skip
 trivial
theorem kw_W15_1:True:=by
 k_with "Mcall ref"=>((fail_if_success k_extra "oW15");((with_reducible show wpAny _ _ (call (Value.ref 85) _ _) _ _ _);refine Stop.at ?_))
 k_with "Mcall ref"=>((fail_if_success k_extra "oW15");((with_reducible show wpAny _ _ (call (Value.ref 55) _ _) _ _ _);refine Stop.at ?_))
 trivial
theorem E7 {prog:Program}{A:Around}{a:Int}{t u:Tok}{Q E:Value→Shared→Prop}{s:Shared}(h:Q (.bool false) s):wpAny (model prog w) A (compareOp .NotEq (.int a t) (.int a u)) Q E s:=by
 refine PyProof.Rows.ne_int ?_
 simpa using h
theorem kw_W15_2:True:=by
 k_with "McompareOp NotEq int int"=>((fail_if_success k_extra "oW15");(with_reducible refine E7 ?_))
 k_with "Meval Call"=>((fail_if_success k_extra "oW15");refine Stop.at ?_)
 trivial
theorem GC {G dG x d I y a:Addr}{ser tgk:Value}{num kx:Int}{t1 t2 tx tg:Tok}{htk:Bool}(S:Ae base ou s.heap)(X:(Mine.hd.heap_39 w.params).In base)(T:Top Mine.hd.view_39 loose mz mg mb base)
  (hd:dp≤600) (hG:s.heap.get? G=some (grO dG (.int num t2) x (.int kx tg))) (hdG:s.heap.get? dG=some (dictOf [] 0)) (hx:s.heap.get? x=some (gbO d (.int num t1) (.int kx tx) (.ref a) true true htk I y ser tgk)) (hdd:s.heap.get? d=some (dictOf [] 0))
  (ht1:tx≠0) (ht2:tg≠0) (b1:base.get? x=none) (b2:base.get? d=none) (b3:base.get? G=none) (b4:base.get? dG=none) (f1:d∉AF ou) (f2:dG∉AF ou)
  (hq:∀h' tk',(∀b o,s.heap.get? b=some o→b≠x→h'.get? b=some o)→h'.get? x=some (gbO d (.int num t1) .none .none false false htk I y ser tgk)→Q (.ref a) {s with heap:=h',toks:=tk'}):
  wpAny (model PR w) (AR dp un (some ou) gd) (call (.ref 137) [.ref G]) Q E s:=by
 revert w dp un gd s loose mz mg mb Q E base ou G dG x d I y a ser tgk num kx t1 t2 tx tg htk
 as_aux_lemma=>
 intro pick_ w dp un gd s loose mz mg mb Q E base ou G dG x d I y a ser tgk num kx t1 t2 tx tg htk
 intro S X T hd hG hdG hx hdd ht1 ht2 b1 b2 b3 b4 f1 f2 hq
 have nf:∀{b:Addr} {o:Obj},s.heap.get? b=some o→(∀es n,o.data≠.dict es n)→b∉AF ou:=fun{b o} e n m=>by
  k_extra "0M"
  k_extra "03O"
  exact n _ _ d'
 k_extra "017"
 have m2:@Ne Nat x G:=ocl hx hG rfl rfl rfl
 have m3:@Ne Nat x dG:=ocl hx hdG rfl rfl rfl
 k_extra "0D"
 refine' Am (binds:= [(Str.ofString "self",.ref G)]) [(G,grO dG (.int num t2) x (.int kx tg)),(dG,dictOf [] 0),(x,gbO d (.int num t1) (.int kx tx) (.ref a) true true htk I y ser tgk),(d,dictOf [] 0)] S X T ?m ?k6 ?k7 ?k8 ?k9 ?kB ?_ ?c2 ?c3 ?c4 ?c5
 (case m=>(intro q hq;simp only [List.mem_cons,List.not_mem_nil,or_false] at hq;rcases hq with rfl|rfl|rfl|rfl<;>first|exact⟨by assumption,by assumption,by assumption⟩|exact⟨by assumption,by assumption,nf (by assumption) (fun es n q=>by cases q)⟩))
 k_extra "00"
 k_extra "0v"
 dsimp only
 k_extra "0h"
 k_fold
 k_steps
 intro clo_ tk
 k_extra "03"
 refine Call_ ?_
 k_steps
 ·k_extra "0G"
  k_extra "0x"
  k_extra "03"
  refine C9 ht2 ht1 (fun _=>rfl) F6.keep X' T' (show dp+1≤800 by exact Ar.up ‹_› (by rfl)) fun h7 tk7 k7=>?_
  rw [decide_eq_true (rfl:kx=kx)]
  have F7:=F6.kept k7
  have N7:=N6.grown k7
  clear F6 N6
  intro clo_ h7 tk7 p_ k7 F7 N7
  k_steps
  k_extra "0S"
  k_extra "0C"
  refine hq _ _ (fun b o e h1=>CF [x] keep F8.keep ?_ ?_ b o e (by simp [h1])) (N8 _ mm2).1
  ·intro clo_ b o p_ e h1
   intro q hq
   k_extra "01"
   k_extra "058"
   rcases hq with rfl|rfl|rfl|rfl<;>assumption
  ·intro clo_ b o p_ e h1
   intro q hq hw
   k_extra "01"
   intro clo_ q p_ hw hq
   k_extra "04W"
   ·exact(N8 _ (.head _)).1
   ·exact(N8 _ mm1).1
   ·k_extra "05e"
   ·exact(N8 _ mm3).1
theorem kw_W15_e:True:=by
 k_with "oW15"=>skip
 trivial
theorem kw_W16_1:True:=by
 k_with "Mcall ref"=>((fail_if_success k_extra "oW16");((with_reducible show wpAny _ _ (call (Value.ref 85) _ _) _ _ _);refine Stop.at ?_))
 k_with "Mcall ref"=>((fail_if_success k_extra "oW16");((with_reducible show wpAny _ _ (call (Value.ref 55) _ _) _ _ _);refine Stop.at ?_))
 k_with "McompareOp NotEq int int"=>((fail_if_success k_extra "oW16");(with_reducible refine E7 ?_))
 k_with "Meval Call"=>((fail_if_success k_extra "oW16");refine Stop.at ?_)
 trivial
theorem GB {G dG x d I D y d2 T0 a:Addr}{k:Nat}{as:List Addr}{oI:Obj}{ck cv ser tgk w':Value}{num kx kt:Int}{t1 t2 tx tg:Tok}{htk hck:Bool}{t0:Tok}{na:Nat}(S:Ae base ou s.heap)(X:(Mine.hd.heap_39 w.params).In base)(T:Top Mine.hd.view_39 loose mz mg mb base)
  (hd:dp≤600) (hG:s.heap.get? G=some (grO dG (.int num t2) x (.int kt tg))) (hdG:s.heap.get? dG=some (dictOf [] 0)) (hx:s.heap.get? x=some (gbO d (.int num t1) ck cv hck false htk I y ser tgk)) (hdd:s.heap.get? d=some (dictOf [] 0)) (hI:s.heap.get? I=some oI) (hi:s.heap.IsListIter I D k) (hl:s.heap.IsList D (as.map Value.ref).toArray)
  (hy:s.heap.get? y=some (BH d2 T0)) (hd2:s.heap.get? d2=some (dictOf [] 0)) (hT:s.heap.get? T0=some {cls:=.type "tuple",data:=.seq #[.int 0 t0]}) (ha:s.heap.get? a=some (seqObj "tuple" #[.int kx tx,w'] na)) (hk:as[k]?=some a)
  (ht1:tx≠0) (ht2:tg≠0) (htt:tg=tx→kt=kx) (b1:base.get? x=none) (b2:base.get? d=none) (b3:base.get? G=none) (b4:base.get? dG=none) (b5:base.get? I=none) (b6:base.get? y=none) (b7:base.get? d2=none) (b8:base.get? T0=none) (b9:base.get? a=none)
  (f1:d∉AF ou) (f2:dG∉AF ou) (f3:d2∉AF ou) (ndd:d≠d2) (ndG:dG≠d2)
  (hq:kt=kx→∀h' tk',(∀b o,s.heap.get? b=some o→b≠x→b≠I→h'.get? b=some o)→h'.IsListIter I D (k+1)→h'.get? x=some (gbO d (.int num t1) .none .none false false htk I y ser tgk)→Q (.ref a) {s with heap:=h',toks:=tk'})
  (he:kt≠kx→∀h' tk' e o6,o6.cls= .type "list_iterator"→o6.data= .fields #[.ref D,.int (k+1:Nat) 0]→CN base ou (hideAll s.heap [G,dG,x,d,I]) [(G,grO dG (.int num t2) x (.int kt tg)),(dG,dictOf [] 0),(x,gbO d (.int num t1) (.int kx tx) (.ref a) true true htk I y ser tgk),(d,dictOf [] 0),(I,o6)] e h'→E (.ref e) {s with heap:=h',toks:=tk'}):
  wpAny (model PR w) (AR dp un (some ou) gd) (call (.ref 137) [.ref G]) Q E s:=by
 revert w dp un gd s loose mz mg mb Q E base ou G dG x d I D y d2 T0 a k as oI ck cv ser tgk w' num kx kt t1 t2 tx tg htk hck t0 na
 as_aux_lemma=>
 intro pick_ w dp un gd s loose mz mg mb Q E base ou G dG x d I D y d2 T0 a k as oI ck cv ser tgk w' num kx kt t1 t2 tx tg htk hck t0 na
 intro S X T hd hG hdG hx hdd hI hi hl hy hd2 hT ha hk ht1 ht2 htt b1 b2 b3 b4 b5 b6 b7 b8 b9 f1 f2 f3 ndd ndG hq he
 obtain⟨oI',eI,cI,dI⟩:=id hi
 intro clo_ oI' p_ eI cI dI
 rw [hI] at eI
 cases eI
 have nf:∀{b:Addr} {o:Obj},s.heap.get? b=some o→(∀es n,o.data≠.dict es n)→b∉AF ou:=fun{b o} e n m=>by
  k_extra "0M"
  k_extra "03O"
  exact n _ _ d'
 k_extra "017"
 have m2:@Ne Nat x G:=ocl hx hG rfl rfl rfl
 have m3:@Ne Nat x dG:=ocl hx hdG rfl rfl rfl
 k_extra "02q"
 k_extra "02h"
 have n3:@Ne Nat G I:=ocl hG hI rfl cI rfl
 have n4:@Ne Nat dG I:=ocl hdG hI rfl cI rfl
 k_extra "0D"
 refine' Am (binds:= [(Str.ofString "self",.ref G)]) [(G,grO dG (.int num t2) x (.int kt tg)),(dG,dictOf [] 0),(x,gbO d (.int num t1) ck cv hck false htk I y ser tgk),(d,dictOf [] 0),(I,oI)] S X T ?m ?k6 ?k7 ?k8 ?k9 ?kB ?_ ?c2 ?c3 ?c4 ?c5
 k_extra "0d"
 k_extra "00"
 k_extra "0v"
 k_extra "0h"
 dsimp only
 k_fold
 have kk:∀{b:Addr} {o:Obj},s.heap.get? b=some o→b≠G→b≠dG→b≠x→b≠d→b≠I→g.get? b=some o:=fun{b o} e e1 e2 e3 e4 e5=>keep _ _ e (by simp [e1,e2,e3,e4,e5])
 obtain⟨oD,eD,cD,rD⟩:=id hl
 intro clo_ oD p_ eD cD rD
 have gD:=kk eD (ocl eD hG cD rfl rfl) (ocl eD hdG cD rfl rfl) (ocl eD hx cD rfl rfl) (ocl eD hdd cD rfl rfl) (ocl eD hI (by first|exact cD|exact cI) (by first|exact cD|exact cI) rfl)
 have gy:=kk hy (ocl hy hG rfl rfl rfl) (ocl hy hdG rfl rfl rfl) (ocl hy hx rfl rfl rfl) (ocl hy hdd rfl rfl rfl) (ocl hy hI rfl cI rfl)
 have gd2:=kk hd2 (ocl hd2 hG rfl rfl rfl) ndG.symm (ocl hd2 hx rfl rfl rfl) ndd.symm (ocl hd2 hI rfl cI rfl)
 have gT:=kk hT (ocl hT hG rfl rfl rfl) (ocl hT hdG rfl rfl rfl) (ocl hT hx rfl rfl rfl) (ocl hT hdd rfl rfl rfl) (ocl hT hI rfl cI rfl)
 have ga:=kk ha (ocl ha hG rfl rfl rfl) (ocl ha hdG rfl rfl rfl) (ocl ha hx rfl rfl rfl) (ocl ha hdd rfl rfl rfl) (ocl ha hI rfl cI rfl)
 k_steps
 k_extra "0G"
 k_extra "0x"
 k_extra "03"
 k_extra "01H"
 k_extra "02j"
 have nfs2:d2∉L'::AF ou:=fun q=>(List.mem_cons.mp q).elim (fun e=>fne gd2 e) f3
 refine Ef (Ah B' Dt F6) X T (show dp+1≤700 by exact Ar.up ‹_› (by rfl)) (N6 _ mm2).1 (N6 _ mm3).1 (N6 _ mm4).1 ⟨oI,(N6 _ mm4).1,cI,dI⟩ ⟨oD,F6.keep _ _ gD,cD,rD⟩
  (F6.keep _ _ gy) (F6.keep _ _ gd2) (F6.keep _ _ gT) (F6.keep _ _ ga) hk b1 b2 b5 b6 b7 b8 b9 nfs nfs2 fun h7 tk7 k7 i7 e7=>?_
 intro clo_ h7 tk7 p_ k7 i7 e7
 obtain⟨o7,eI7,cI7,dI7⟩:=i7
 intro clo_ o7 p_ eI7 cI7 dI7
 have F7:=BP F6 [x,I] (fun b o e hb=>k7 b o e (fun q=>hb (by rw [q];exact .head _)) fun q=>hb (by rw [q];exact .tail _ (.head _))) (by
  intro q hq
  k_extra "01"
  k_extra "051"
  ·exact⟨(N6 _ mm2).2.2,(N6 _ mm2).2.1⟩
  ·exact⟨(N6 _ mm4).2.2,(N6 _ mm4).2.1⟩)
 have N7:News g L' h7 [(G,grO dG (.int num t2) x (.int kt tg)),(dG,dictOf [] 0),(x,gbO d (.int num t1) (.int kx tx) (.ref a) true true htk I y ser tgk),(d,dictOf [] 0),(I,o7)]:=by
  intro q hq
  k_extra "01"
  k_extra "059"
  ·exact⟨k7 _ _ (N6 _ (.head _)).1 (fun q=>m2 q.symm) n3,(N6 _ (.head _)).2⟩
  ·exact⟨k7 _ _ (N6 _ mm1).1 (fun q=>m3 q.symm) n4,(N6 _ mm1).2⟩
  ·exact⟨e7,(N6 _ mm2).2⟩
  ·exact⟨k7 _ _ (N6 _ mm3).1 (fun q=>m1 q.symm) n2,(N6 _ mm3).2⟩
  ·exact⟨eI7,(N6 _ mm4).2⟩
 clear F6 N6
 k_steps
 k_extra "03"
 refine Call_ ?_
 k_steps
 k_extra "0S"
 k_extra "0C"
 k_extra "03"
 refine C9 ht2 ht1 htt F8.keep X' T' (show dp+1≤800 by exact Ar.up ‹_› (by rfl)) fun h9 tk9 k9=>?_
 intro clo_ h9 tk9 p_ k9
 have F9:=F8.kept k9
 have N9:=N8.grown k9
 clear F8 N8
 by_cases hkk:kt=kx
 ·rw [decide_eq_true hkk]
  k_steps
  k_extra "0S"
  k_extra "0C"
  refine hq hkk _ _ (fun b o e h1 h2=>CF [x,I] keep F8.keep ?_ ?_ b o e (by simp [h1,h2])) ⟨o7,(N8 _ mm4).1,cI7,dI7⟩ (N8 _ mm2).1
  ·intro q hq
   k_extra "058"
   k_extra "01"
   rcases hq with rfl|rfl|rfl|rfl|rfl<;>assumption
  ·intro q hq hw
   intro clo_ q p_ hq hw
   k_extra "01"
   k_extra "059"
   ·exact(N8 _ (.head _)).1
   ·exact(N8 _ mm1).1
   ·k_extra "05e"
   ·exact(N8 _ mm3).1
   ·exact absurd mm1 hw
 ·rw [decide_eq_false hkk]
  k_steps
  rename RaisedS _ _ _ _ _ _ _ _ _=>R8
  rename Heap.UpToSlots _ _=>U8
  refine he hkk _ _ _ o7 cI7 dI7 (CC (mu:= [(G,grO dG (.int num t2) x (.int kt tg)),(dG,dictOf [] 0),(x,gbO d (.int num t1) ck cv hck false htk I y ser tgk),(d,dictOf [] 0),(I,oI)]) [G,dG,x,d,I] rfl keep KtsTurn.refl R8 U8 ?_)
  intro q hq
  k_extra "058"
  k_extra "01"
  rcases hq with rfl|rfl|rfl|rfl|rfl<;>simp
theorem kw_W16_e:True:=by
 k_with "oW16"=>skip
 trivial
theorem kw_W17_1:True:=by
 k_with "Mcall ref"=>((fail_if_success k_extra "oW17");((with_reducible show wpAny _ _ (call (Value.ref 85) _ _) _ _ _);refine Stop.at ?_))
 k_with "McompareOp NotEq int int"=>((fail_if_success k_extra "oW17");(with_reducible refine E7 ?_))
 k_with "Mleaving ref"=>((fail_if_success k_extra "oW17");refine Stop.at ?_)
 trivial
theorem Gz {G dG x d I D y:Addr}{k:Nat}{as:List Addr}{oI:Obj}{ck cv ser tgk kt:Value}{num:Int}{t1 t2:Tok}{htk hck:Bool}(S:Ae base ou s.heap)(X:(Mine.hd.heap_39 w.params).In base)(T:Top Mine.hd.view_39 loose mz mg mb base)
  (hd:dp≤600) (hG:s.heap.get? G=some (grO dG (.int num t2) x kt)) (hdG:s.heap.get? dG=some (dictOf [] 0)) (hx:s.heap.get? x=some (gbO d (.int num t1) ck cv hck false htk I y ser tgk)) (hdd:s.heap.get? d=some (dictOf [] 0)) (hI:s.heap.get? I=some oI) (hi:(s.heap.IsListIter I D k∧s.heap.IsList D (as.map Value.ref).toArray∧as[k]?=none)∨Ay s.heap I)
  (b1:base.get? x=none) (b2:base.get? d=none) (b3:base.get? G=none) (b4:base.get? dG=none) (b5:base.get? I=none) (f1:d∉AF ou) (f2:dG∉AF ou)
  (he:∀h' tk' e o6 z6,o6.cls= .type "list_iterator"→o6.data= .fields #[.none,z6]→CN base ou (hideAll s.heap [G,dG,x,d,I]) [(x,gbO d (.int num t1) ck cv hck false htk I y ser tgk),(d,dictOf [] 0),(I,o6)] e h'→E (.ref e) {s with heap:=h',toks:=tk'}):
  wpAny (model PR w) (AR dp un (some ou) gd) (call (.ref 137) [.ref G]) Q E s:=by
 revert w dp un gd s loose mz mg mb Q E base ou G dG x d I D y k as oI ck cv ser tgk kt num t1 t2 htk hck
 as_aux_lemma=>
 intro pick_ w dp un gd s loose mz mg mb Q E base ou G dG x d I D y k as oI ck cv ser tgk kt num t1 t2 htk hck
 intro S X T hd hG hdG hx hdd hI hi b1 b2 b3 b4 b5 f1 f2 he
 have cI:oI.cls= .type "list_iterator"∧∃fs,oI.data= .fields fs:=by
  k_extra "05j"
  ·k_extra "01k"
  ·k_extra "01d"
 obtain⟨cI,fI,dI⟩:=cI
 have nf:∀{b:Addr} {o:Obj},s.heap.get? b=some o→(∀es n,o.data≠.dict es n)→b∉AF ou:=fun{b o} e n m=>by
  k_extra "0M"
  k_extra "03O"
  exact n _ _ d'
 intro clo_ fI p_ dI
 k_extra "0D"
 refine' Am (binds:= [(Str.ofString "self",.ref G)]) [(G,grO dG (.int num t2) x kt),(dG,dictOf [] 0),(x,gbO d (.int num t1) ck cv hck false htk I y ser tgk),(d,dictOf [] 0),(I,oI)] S X T ?m ?k6 ?k7 ?k8 ?k9 ?kB ?_ ?c2 ?c3 ?c4 ?c5
 k_extra "0d"
 k_extra "00"
 k_extra "0v"
 dsimp only
 k_extra "0h"
 k_fold
 k_steps
 k_extra "0G"
 k_extra "0x"
 intro clo_ tk
 k_extra "03"
 have hi6:∀{h6:Heap},News g L' h6 [(G,grO dG (.int num t2) x kt),(dG,dictOf [] 0),(x,gbO d (.int num t1) ck cv hck false htk I y ser tgk),(d,dictOf [] 0),(I,oI)]→g.StaysIn h6→(h6.IsListIter I D k∧h6.IsList D (as.map Value.ref).toArray∧as[k]?=none)∨Ay h6 I:=fun{h6} N6 K6=>by
  rcases hi with⟨hi,hl,hk⟩|hi
  ·obtain⟨oD,eD,cD,rD⟩:=hl
   have nD:D∉ [G,dG,x,d,I]:=by
    k_extra "0H"
    exact⟨ocl eD hG cD rfl rfl,ocl eD hdG cD rfl rfl,ocl eD hx cD rfl rfl,ocl eD hdd cD rfl rfl,ocl eD hI (by first|exact cD|exact cI) (by first|exact cD|exact cI) rfl⟩
   obtain⟨o,e,r⟩:=hi
   rw [hI] at e;cases e
   exact .inl ⟨⟨oI,(N6 _ mm4).1,r⟩,⟨oD,K6 _ _ (keep _ _ eD nD),cD,rD⟩,hk⟩
  ·obtain⟨o,z,e,r⟩:=hi
   rw [hI] at e;cases e
   exact .inr ⟨oI,z,(N6 _ mm4).1,r⟩
 k_extra "02j"
 refine FY (Ah B' Dt F6) X T (show dp+1≤700 by exact Ar.up ‹_› (by rfl)) (N6 _ mm2).1 (N6 _ mm3).1 (N6 _ mm4).1 (hi6 N6 F6.keep) b1 b2 b5 nfs fun h7 tk7 e7 o7 z7 c7 d7 R7=>?_
 k_extra "04O"
 obtain⟨t7,vs7,R7,U7⟩:=R7
 have F7:=BP (h':=hideAll _ [x,d,I]) F6 [x,d,I] (fun b o e hb=>hideAll_get _ e hb) (by
  intro q hq
  k_extra "01"
  k_extra "053"
  ·exact⟨(N6 _ mm2).2.2,(N6 _ mm2).2.1⟩
  ·exact⟨(N6 _ mm3).2.2,(N6 _ mm3).2.1⟩
  ·exact⟨(N6 _ mm4).2.2,(N6 _ mm4).2.1⟩)
 clear F6 N6
 intro clo_ t7 vs7 p_ R7
 k_steps
 k_extra "03"
 show wpAny _ _ (leaving _ _) _ _ _
 refine leave_onS B' F7 R7 U7 fun h8 R8 _ U8=>?_
 intro clo_ h8 p_ R8 x_ U8
 refine he _ _ _ o7 z7 c7 d7 (CC (mu:= [(G,grO dG (.int num t2) x kt),(dG,dictOf [] 0),(x,gbO d (.int num t1) ck cv hck false htk I y ser tgk),(d,dictOf [] 0),(I,oI)]) [G,dG,x,d,I] rfl keep KtsTurn.refl R8 U8 ?_)
 intro q hq
 k_extra "01"
 k_extra "058"
 k_extra "05f"
end
theorem kw_W17_e:True:=by
 k_with "oW17"=>skip
 trivial
end
section
section
variable{w:World}{dp un:Nat}{gd:Option (List Code)}{s:Shared}{loose:List Str}{mz:ExcName→Option Value}{mg mb:Str→Option Value}{Q E:Value→Shared→Prop}{base:Heap}{fr:Option (List Env)}{hb:Heap}
theorem KG {G:Addr}(kb:hb.StaysIn s.heap)(X:(Mine.hd.heap_39 w.params).In hb)(T:Top Mine.hd.view_39 loose mz mg mb hb)(hd:dp≤800)
  (h:∀h' tk',(∀b o,s.heap.get? b=some o→h'.get? b=some o)→Q (.ref G) {s with heap:=h',toks:=tk'}):
  wpAny (model PR w) (AR dp un fr gd) (call (.ref 130) [.ref G]) Q E s:=by
 k_extra "0D"
 k_extra "01w"
 k_extra "03D"
 k_extra "00"
 k_extra "0f"
 dsimp only
 k_fold
 k_steps
 k_extra "0e"
 k_extra "049"
theorem KH {G:Addr}(kb:hb.StaysIn s.heap)(X:(Mine.hd.heap_39 w.params).In hb)(T:Top Mine.hd.view_39 loose mz mg mb hb)(hd:dp≤800)
  (h:∀h' tk',(∀b o,s.heap.get? b=some o→h'.get? b=some o)→Q (.ref G) {s with heap:=h',toks:=tk'}):
  wpAny (model PR w) (AR dp un fr gd) (call (.ref 78) [.ref G]) Q E s:=by
 k_extra "0D"
 k_extra "01w"
 k_extra "03D"
 k_extra "00"
 k_extra "0f"
 dsimp only
 k_fold
 k_steps
 k_extra "0e"
 k_extra "049"
end
end
section
structure Je (base:Heap) (ou:List Env) (as:List Addr) (x d I y d2 T0 G dG:Addr):Prop where
 bx:base.get? x=none
 bd:base.get? d=none
 bI:base.get? I=none
 bY:base.get? y=none
 bd2:base.get? d2=none
 bT:base.get? T0=none
 bG:base.get? G=none
 bdG:base.get? dG=none
 bas:∀a∈as,base.get? a=none
 fd:d∉AF ou
 fd2:d2∉AF ou
 fdG:dG∉AF ou
 ndd:d≠d2
 ndG:dG≠d
 ndG2:dG≠d2
structure EL (κ:Addr→Int) (τ:Addr→Tok) (as:List Addr) (d D y d2 T0:Addr) (t0:Tok) (h:Heap):Prop where
 pd:h.get? d=some (dictOf [] 0)
 pD:h.IsList D (as.map Value.ref).toArray
 py:h.get? y=some (BH d2 T0)
 pd2:h.get? d2=some (dictOf [] 0)
 pT:h.get? T0=some {cls:=.type "tuple",data:=.seq #[.int 0 t0]}
 keys:∀a∈as,∃w n,h.get? a=some (seqObj "tuple" #[.int (κ a) (τ a),w] n)
section
variable{κ:Addr→Int}{τ:Addr→Tok}{as:List Addr}{x d I D y d2 T0 G dG:Addr}{t0:Tok}{h h' base:Heap}{ou:List Env}
theorem EL.keep (A:EL κ τ as d D y d2 T0 t0 h)(k:∀b,b∈d::D::y::d2::T0::as→∀o,h.get? b=some o→h'.get? b=some o):EL κ τ as d D y d2 T0 t0 h':=by
 k_extra "05k"
 refine⟨k _ (by simp) _ a1,IsList.keep' a2 fun o e=>k _ (by simp) _ e,k _ (by simp) _ a3,k _ (by simp) _ a4,k _ (by simp) _ a5,fun a ha=>?_⟩
 obtain⟨w,n,e⟩:=a6 a ha
 exact⟨w,n,k _ (by simp [ha]) _ e⟩
theorem EL.safe (A:EL κ τ as d D y d2 T0 t0 h)(V:Je base ou as x d I y d2 T0 G dG)(S:Ae base ou h){ox oI oG:Obj}(hx:h.get? x=some ox)(cx:ox.cls= .ref 96)(hI:h.get? I=some oI)(cI:oI.cls= .type "list_iterator")(hG:h.get? G=some oG)(cG:oG.cls= .ref 141)(hdG:h.get? dG=some (dictOf [] 0)):
  ∀b,b∈d::D::y::d2::T0::as→b≠x∧b≠I∧b≠G∧b≠dG∧b∉AF ou:=by
 k_extra "05k"
 have nf:∀{b:Addr} {o:Obj},h.get? b=some o→(∀es n,o.data≠.dict es n)→b∉AF ou:=fun{b o} e n m=>by
  k_extra "0M"
  k_extra "03O"
  exact n _ _ d'
 intro b hb
 k_extra "0P"
 ·exact⟨ocl a1 hx rfl cx rfl,ocl a1 hI rfl cI rfl,ocl a1 hG rfl cG rfl,V.ndG.symm,V.fd⟩
 k_extra "0P"
 ·obtain⟨oD,eD,cD,nD,dD⟩:=a2
  exact⟨ocl eD hx (by first|exact cD|exact cx) (by first|exact cD|exact cx) rfl,ocl eD hI (by first|exact cD|exact cI) (by first|exact cD|exact cI) rfl,ocl eD hG (by first|exact cD|exact cG) (by first|exact cD|exact cG) rfl,ocl eD hdG cD rfl rfl,nf eD fun es n q=>by rw [dD] at q;cases q⟩
 k_extra "0P"
 ·exact⟨ocl a3 hx rfl cx rfl,ocl a3 hI rfl cI rfl,ocl a3 hG rfl cG rfl,ocl a3 hdG rfl rfl rfl,nf a3 fun es n q=>by cases q⟩
 k_extra "0P"
 ·exact⟨ocl a4 hx rfl cx rfl,ocl a4 hI rfl cI rfl,ocl a4 hG rfl cG rfl,V.ndG2.symm,V.fd2⟩
 k_extra "0P"
 ·exact⟨ocl a5 hx rfl cx rfl,ocl a5 hI rfl cI rfl,ocl a5 hG rfl cG rfl,ocl a5 hdG rfl rfl rfl,nf a5 fun es n q=>by cases q⟩
 ·obtain⟨w,n,e⟩:=a6 b hb
  exact⟨ocl e hx rfl cx rfl,ocl e hI rfl cI rfl,ocl e hG rfl cG rfl,ocl e hdG rfl rfl rfl,nf e fun es n q=>by cases q⟩
end
theorem EL.there {κ:Addr→Int}{τ:Addr→Tok}{as:List Addr}{d D y d2 T0:Addr}{t0:Tok}{h:Heap}(A:EL κ τ as d D y d2 T0 t0 h):∀b,b∈d::D::y::d2::T0::as→∃o,h.get? b=some o:=by
 k_extra "05k"
 intro b hb
 k_extra "0P"
 ·exact⟨_,a1⟩
 k_extra "0P"
 ·obtain⟨o,e,_⟩:=a2;exact⟨o,e⟩
 k_extra "0P"
 ·exact⟨_,a3⟩
 k_extra "0P"
 ·exact⟨_,a4⟩
 k_extra "0P"
 ·exact⟨_,a5⟩
 ·obtain⟨w,n,e⟩:=a6 b hb;exact⟨_,e⟩
noncomputable def Pp (κ:Addr→Int)(τ:Addr→Tok)(as:List Addr)(x d I D y:Addr)(cg ser tgk:Value)(p q:Nat)(a0:Addr)(h:Heap):Prop:=
 (q=p∧h.get? x=some (gbO d cg (.int (κ a0) (τ a0)) (.ref a0) true true true I y ser tgk)∧h.IsListIter I D (p+1))∨
 (p<q∧h.get? x=some (gbO d cg .none .none false false true I y ser tgk)∧h.IsListIter I D q)
noncomputable def LN (κ:Addr→Int)(τ:Addr→Tok)(as:List Addr)(x d I D y:Addr)(cg ser tgk:Value)(q:Nat)(h:Heap):Prop:=
 (∃a,as[q]?=some a∧h.get? x=some (gbO d cg (.int (κ a) (τ a)) (.ref a) true true true I y ser tgk)∧h.IsListIter I D (q+1))∨
 (q=as.length∧h.get? x=some (gbO d cg .none .none false false true I y ser tgk)∧Ay h I)
section
variable{w:World}{dp un:Nat}{gd:Option (List Code)}{s:Shared}{loose:List Str}{mz:ExcName→Option Value}{mg mb:Str→Option Value}{Q E:Value→Shared→Prop}{base:Heap}{ou:List Env}
variable{κ:Addr→Int}{τ:Addr→Tok}{as:List Addr}{x d I D y d2 T0 G dG:Addr}{t0:Tok}
theorem PY {p:Nat}{a0:Addr}{num:Int}{t1 t2:Tok}{ser tgk:Value}(S:Ae base ou s.heap)(X:(Mine.hd.heap_39 w.params).In base)(T:Top Mine.hd.view_39 loose mz mg mb base)(hd:dp≤500)
  (V:Je base ou as x d I y d2 T0 G dG) (A:EL κ τ as d D y d2 T0 t0 s.heap) (hG:s.heap.get? G=some (grO dG (.int num t2) x (.int (κ a0) (τ a0)))) (hdG:s.heap.get? dG=some (dictOf [] 0))
  (hx:s.heap.get? x=some (gbO d (.int num t1) (.int (κ a0) (τ a0)) (.ref a0) true true true I y ser tgk)) (hi:s.heap.IsListIter I D (p+1)) (hp:as[p]?=some a0) (h64:as.length≤900)
  (tok0:∀a∈as,τ a≠0) (tok1:∀a∈as,∀b∈as,τ a=τ b→κ a=κ b)
  (h:∀h' tk' D' c q,p<q→q≤as.length→(∀i a,p≤i→i<q→as[i]?=some a→κ a=κ a0)→(∀a,as[q]?=some a→κ a≠κ a0)→LN κ τ as x d I D y (.int num t1) ser tgk q h'→Up (AF ou) [G,dG,x,I] s.heap h'→h'.get? D'=some (rl ((as.drop p).take (q-p)) c)→s.heap.get? D'=none→
   Q (.ref D') {s with heap:=h',toks:=tk'}):
  wpAny (model PR w) (AR dp un (some ou) gd) (call (.type "list") [.ref G]) Q E s:=by
 revert w dp un gd s loose mz mg mb Q E base ou κ τ as x d I D y d2 T0 G dG t0 p a0 num t1 t2 ser tgk
 as_aux_lemma=>
 intro pick_ w dp un gd s loose mz mg mb Q E base ou κ τ as x d I D y d2 T0 G dG t0 p a0 num t1 t2 ser tgk
 intro S X T hd V A hG hdG hx hi hp h64 tok0 tok1 h
 have XS:(Mine.hd.heap_39 w.params).In s.heap:=X.keeps S.stays
 have IG:InstAt s.heap G (grO dG (.int num t2) x (.int (κ a0) (τ a0))) 141 (some (dictOf [] 0)):=⟨hG,rfl,rfl,hdG⟩
 have ha0:a0∈as:=List.mem_of_getElem? hp
 have hpl:p<as.length:=by
  rcases Nat.lt_or_ge p as.length with q|q
  ·exact q
  ·rw [List.getElem?_eq_none q] at hp;cases hp
 obtain⟨oI,eI,cI,dI⟩:=id hi
 have lt_of:∀{b o},s.heap.get? b=some o→b<s.heap.objs.size:=fun e=>Heap.lt_size e
 have wrOk:∀b∈ [G,dG,x,I],base.get? b=none∧b∉AF ou:=by
  have nf:∀{b:Addr} {o:Obj},s.heap.get? b=some o→(∀es n,o.data≠.dict es n)→b∉AF ou:=fun{b o} e n m=>by
   k_extra "0M"
   k_extra "03O"
   exact n _ _ d'
  intro b hb
  simp only [List.mem_cons,List.not_mem_nil,or_false] at hb
  rcases hb with rfl|rfl|rfl|rfl
  ·exact⟨V.bG,nf hG fun es n q=>by cases q⟩
  ·exact⟨V.bdG,V.fdG⟩
  ·exact⟨V.bx,nf hx fun es n q=>by cases q⟩
  ·exact⟨V.bI,nf eI fun es n q=>by rw [dI] at q;cases q⟩
 have nS:s.heap.objs.size≠G∧s.heap.objs.size≠dG∧s.heap.objs.size≠x∧s.heap.objs.size≠I∧s.heap.objs.size∉AF ou:=
  ⟨Nat.ne_of_gt (lt_of hG),Nat.ne_of_gt (lt_of hdG),Nat.ne_of_gt (lt_of hx),Nat.ne_of_gt (lt_of eI),fun m=>by obtain⟨o,_,_,e,_⟩:=S.dicts _ m;exact Nat.lt_irrefl _ (lt_of e)⟩
 intro clo_ oI p_ eI cI dI
 refine LC (T:=.ref 141) (n₀:=as.length-p) (fun n acc s₁=>Ex3 fun q h1 tk1=>Kv (s₁={s with heap:=h1,toks:=tk1}) (n+q=as.length) (p≤q) (acc=((as.drop p).take (q-p)).map Value.ref) ((∀i a,p≤i→i<q→as[i]?=some a→κ a=κ a0)) (Pp κ τ as x d I D y (.int num t1) ser tgk p q a0 h1) (h1.get? G=some (grO dG (.int num t2) x (.int (κ a0) (τ a0)))) (h1.get? dG=some (dictOf [] 0)) (EL κ τ as d D y d2 T0 t0 h1) (Up (AF ou) [x,I] s.heap h1) (∃o,Ea (h1.get? s.heap.objs.size=some o) (o.cls= .type "list") (Ex2 fun xs n=>o.data= .seq xs n)))
  IG.type rfl rfl ?_ ?_ (lt_of hG) ?_ ?_
 ·exact IG.type.andThen (looks_findIn XS (by k_is))
 ·exact IG.type.andThen (looks_findIn XS (by k_is))
 ·intro hS c up eS
  have IG':InstAt hS G (grO dG (.int num t2) x (.int (κ a0) (τ a0))) 141 (some (dictOf [] 0)):=⟨up _ _ hG,rfl,rfl,up _ _ hdG⟩
  intro clo_ hS c p_ up eS IG'
  refine Fo (s:={s with heap:=hS}) (K:=Mine.hd.heap_39 w.params) (f:=130) (g:=.ref 137) (XS.keeps up) IG' (by k_is) (by k_is) (by k_is) ?_
  refine KG (s:={s with heap:=hS}) (hb:=base) (fun b o e=>up b o (S.stays b o e)) X T (show dp≤800 by exact Ar.upS ‹_› (by rfl)) fun h2 tk2 k2=>?_
  intro clo_ h2 tk2 p_ k2
  refine⟨rfl,(XS.keeps up).keeps k2,⟨k2 _ _ (up _ _ hG),rfl,rfl,k2 _ _ (up _ _ hdG)⟩,rfl,k2,fun h' k' hS'=>?_⟩
  intro clo_ h' p_ k' hS'
  obtain⟨c',hS'⟩:=hS'
  have all:∀b o,s.heap.get? b=some o→h'.get? b=some o:=fun b o e=>k' b o (Nat.ne_of_lt (lt_of e)) (k2 b o (up b o e))
  exact⟨p,h',tk2,rfl,by exact Ar.q282 hpl,Nat.le_refl _,by simp,fun i a h1 h2=>by exact Ar.r299 h1 h2,.inl ⟨rfl,all _ _ hx,IsListIter.keep' hi (all _)⟩,all _ _ hG,all _ _ hdG,A.keep fun b _=>all b,Up.of_keep fun b o e _=>all b o e,_,hS',rfl,_,_,rfl⟩
 ·rintro n acc s₁ ⟨q,h1,tk1,rfl,hn,hpq,rfl,hrun,hst,hG1,hdG1,A1,U1,oS,eS,cS,dS⟩
  intro clo_ n q h1 tk1 p_ hn hpq hrun hst hG1 hdG1 A1 U1 d_ oS p_ eS cS dS
  refine⟨by rw [List.length_map,List.length_take];exact Ar.q95 h64 hn hpq,?_⟩
  have S1:Ae base ou h1:=S.up U1 fun b hb=>wrOk b (by simp at hb⊢;rcases hb with rfl|rfl<;>simp)
  have X1:(Mine.hd.heap_39 w.params).In h1:=X.keeps S1.stays
  have IG1:InstAt h1 G (grO dG (.int num t2) x (.int (κ a0) (τ a0))) 141 (some (dictOf [] 0)):=⟨hG1,rfl,rfl,hdG1⟩
  refine Fn (s:={s with heap:=h1,toks:=tk1}) (K:=Mine.hd.heap_39 w.params) (f:=137) X1 IG1 (by k_is) (by k_is) ?_
  have snoc:∀{a:Addr},as[q]?=some a→((as.drop p).take (q-p)).map Value.ref++ [Value.ref a]=((as.drop p).take (q+1-p)).map Value.ref:=fun{a} e=>by
   have e1:q+1-p=(q-p)+1:=by exact Ar.sub1 ‹_›
   have e2:(as.drop p)[q-p]?=some a:=by rw [List.getElem?_drop,show p+(q-p)=q by exact Ar.subA ‹_›];exact e
   rw [e1,List.take_add_one,e2]
   simp
  have sS:∀b,b∈d::D::y::d2::T0::as→b≠s.heap.objs.size:=fun b hb=>by
   obtain⟨o,e⟩:=A.there b hb
   exact Nat.ne_of_lt (lt_of e)
  have upS:∀h':Heap,(∀b o,h1.get? b=some o→b≠x→b≠I→b≠s.heap.objs.size→h'.get? b=some o)→Up (AF ou) [x,I] s.heap h':=fun h' k b o e hb=>by
   have n1:b≠x:=fun q=>hb (by simp [q])
   have n2:b≠I:=fun q=>hb (by simp [q])
   have n3:b≠s.heap.objs.size:=Nat.ne_of_lt (lt_of e)
   refine⟨fun m=>k b o ((U1 b o e hb).1 m) n1 n2 n3,fun m=>?_⟩
   obtain⟨sl,e'⟩:=(U1 b o e hb).2 m
   exact⟨sl,k b _ e' n1 n2 n3⟩
  have nfS:s.heap.objs.size∉AF ou:=nS.2.2.2.2
  rcases hst with⟨rfl,hx1,hi1⟩|⟨hlt,hx1,hi1⟩
  ·refine GC (s:={s with heap:=h1,toks:=tk1}) S1 X T (show dp≤600 by exact Ar.upS ‹_› (by rfl)) hG1 hdG1 hx1 A1.pd (tok0 _ ha0) (tok0 _ ha0) V.bx V.bd V.bG V.bdG V.fd V.fdG fun h7 tk7 k7 e7=>?_
   k_extra "05t"
   refine⟨fun o e=>k7 _ o e nS.2.2.1,n-1,by exact Ar.cdP ‹_› ‹_›,fun h' k' hS'=>?_⟩
   intro clo_ h' p_ k' hS'
   obtain⟨c',hS'⟩:=hS'
   intro clo_ c' p_ hS'
   obtain⟨oI1,eI1,cI1,dI1⟩:=id hi1
   have sf:=A1.safe V S1 hx1 rfl eI1 cI1 hG1 rfl hdG1
   have all:∀b o,h1.get? b=some o→b≠x→b≠s.heap.objs.size→h'.get? b=some o:=fun b o e n1 n2=>k' b o n2 (k7 b o e n1)
   intro clo_ oI1 p_ eI1 cI1 dI1
   refine⟨q+1,h',tk7,rfl,by exact Ar.cd ‹_› ‹_›,by omega,snoc hp,fun i a h1 h2 e=>?_,.inr ⟨by omega,k' _ _ (Ne.symm nS.2.2.1) e7,⟨oI1,all _ _ eI1 (ocl eI1 hx1 cI1 rfl rfl) (Ne.symm nS.2.2.2.1),cI1,dI1⟩⟩,all _ _ hG1 (ocl hG1 hx1 rfl rfl rfl) (Ne.symm nS.1),all _ _ hdG1 (ocl hdG1 hx1 rfl rfl rfl) (Ne.symm nS.2.1),
    A1.keep fun b hb o e=>all b o e (sf b hb).1 (sS b hb),upS h' fun b o e n1 _ n3=>all b o e n1 n3,_,hS',rfl,_,_,rfl⟩
   intro clo_ i a p_ h1 h2 e
   obtain rfl:i=q:=by exact Nat.le_antisymm (Nat.le_of_lt_succ h2) h1
   rw [hp] at e;cases e;rfl
  ·obtain⟨oI1,eI1,cI1,dI1⟩:=id hi1
   have sf:=A1.safe V S1 hx1 rfl eI1 cI1 hG1 rfl hdG1
   have nGx:G≠x:=ocl hG1 hx1 rfl rfl rfl
   have ndGx:dG≠x:=ocl hdG1 hx1 rfl rfl rfl
   have nGI:G≠I:=ocl hG1 eI1 rfl cI1 rfl
   have ndGI:dG≠I:=ocl hdG1 eI1 rfl cI1 rfl
   intro clo_ oI1 p_ eI1 cI1 dI1
   by_cases hql:q<as.length
   ·have hk:as[q]?=some as[q]:=List.getElem?_eq_getElem hql
    have hm:as[q]∈as:=List.getElem_mem hql
    generalize as[q]=a at hk hm
    intro clo_ a p_ hk hm
    obtain⟨w',na,ea⟩:=A1.keys a hm
    intro clo_ w' na p_ ea
    refine GB (s:={s with heap:=h1,toks:=tk1}) S1 X T (show dp≤600 by exact Ar.upS ‹_› (by rfl)) hG1 hdG1 hx1 A1.pd eI1 hi1 A1.pD A1.py A1.pd2 A1.pT ea hk (tok0 _ hm) (tok0 _ ha0) (tok1 _ ha0 _ hm) V.bx V.bd V.bG V.bdG V.bI V.bY V.bd2 V.bT (V.bas _ hm) V.fd V.fdG V.fd2 V.ndd V.ndG2 ?_ ?_
    ·intro hkk h7 tk7 k7 i7 e7
     intro clo_ h7 tk7 p_ k7 i7 e7
     refine⟨fun o e=>k7 _ o e nS.2.2.1 nS.2.2.2.1,n-1,by exact Ar.cdP ‹_› ‹_›,fun h' k' hS'=>?_⟩
     intro clo_ h' p_ k' hS'
     obtain⟨c',hS'⟩:=hS'
     have all:∀b o,h1.get? b=some o→b≠x→b≠I→b≠s.heap.objs.size→h'.get? b=some o:=fun b o e n1 n2 n3=>k' b o n3 (k7 b o e n1 n2)
     intro clo_ c' p_ hS'
     refine⟨q+1,h',tk7,rfl,by exact Ar.cd ‹_› ‹_›,by exact Nat.le_succ_of_le (Nat.le_of_lt hlt),snoc hk,fun i a' h1 h2 e=>?_,.inr ⟨by exact Nat.lt_succ_of_lt hlt,k' _ _ (Ne.symm nS.2.2.1) e7,IsListIter.keep' i7 fun o e=>k' _ _ (Ne.symm nS.2.2.2.1) e⟩,all _ _ hG1 nGx nGI (Ne.symm nS.1),all _ _ hdG1 ndGx ndGI (Ne.symm nS.2.1),
      A1.keep fun b hb o e=>all b o e (sf b hb).1 (sf b hb).2.1 (sS b hb),upS h' all,_,hS',rfl,_,_,rfl⟩
     intro clo_ i a' p_ h1 h2 e
     by_cases hiq:i<q
     ·exact hrun i a' h1 hiq e
     ·obtain rfl:i=q:=by exact Ar.q368 hn h2 hiq
      rw [hk] at e;cases e;exact hkk.symm
    ·intro hkk h7 tk7 e7 o7 c7 d7 R7
     intro clo_ h7 tk7 e7 o7 p_ c7 d7 R7
     obtain⟨⟨oe,he,hce⟩,U7,N7⟩:=R7.tells S1
     have ex:=N7 _ mm2
     have eI7:=N7 _ mm4
     have ed7:=N7 _ mm3
     have eG7:=N7 _ (.head _)
     have edG7:=N7 _ mm1
     k_extra "0B"
     intro clo_ oe p_ he hce
     refine⟨e7,oe,rfl,he,hce,kS,fun c hc=>?_⟩
     intro clo_ c p_ hc
     refine h h7 tk7 _ c q hlt (by exact Nat.le_of_lt ‹_›) hrun (fun a' e=>?_) (.inl ⟨a,hk,ex,⟨o7,eI7,c7,d7⟩⟩) ?_ hc (Heap.get?_none_of_le (Nat.le_refl _))
     ·rw [hk] at e;cases e;exact Ne.symm hkk
     ·refine(Up.trans (U1.wider (by intro b hb;simp at hb⊢;rcases hb with rfl|rfl<;>simp)) fun b o e hb=>?_)
      intro clo_ b o p_ e hb
      by_cases hbd:b=d
      ·subst hbd
       rw [A1.pd] at e;cases e
       exact⟨fun _=>ed7,fun m=>absurd m V.fd⟩
      ·k_extra "02I"
   ·have hq':as[q]?=none:=List.getElem?_eq_none (by exact Nat.not_lt.mp hql)
    refine Gz (s:={s with heap:=h1,toks:=tk1}) S1 X T (show dp≤600 by exact Ar.upS ‹_› (by rfl)) hG1 hdG1 hx1 A1.pd eI1 (.inl ⟨hi1,A1.pD,hq'⟩) V.bx V.bd V.bG V.bdG V.bI V.fd V.fdG fun h7 tk7 e7 o7 z7 c7 d7 R7=>?_
    k_extra "04O"
    obtain⟨⟨oe,he,hce⟩,U7,N7⟩:=R7.tells S1
    have ex:=N7 _ (.head _)
    have ed7:=N7 _ mm1
    have eI7:=N7 _ mm2
    k_extra "0B"
    intro clo_ oe p_ he hce
    refine⟨e7,oe,rfl,he,hce,kS,fun c hc=>?_⟩
    intro clo_ c p_ hc
    refine h h7 tk7 _ c q hlt (by exact Ar.r153 hn hql) hrun (fun a' e=>by rw [hq'] at e;cases e) (.inr ⟨by exact Ar.ceN ‹_› ‹_›,ex,⟨o7,z7,eI7,c7,d7⟩⟩) ?_ hc (Heap.get?_none_of_le (Nat.le_refl _))
    refine(Up.trans (U1.wider (by intro b hb;simp at hb⊢;rcases hb with rfl|rfl<;>simp)) fun b o e hb=>?_)
    intro clo_ b o p_ e hb
    by_cases hbd:b=d
    ·subst hbd
     rw [A1.pd] at e;cases e
     exact⟨fun _=>ed7,fun m=>absurd m V.fd⟩
    ·k_extra "02I"
end
end
noncomputable def Ap (h:Heap)(a:Addr):Tok:=match h.get? a with
 |some o=>(match o.data with
  |.seq xs _=>(match xs.getD 0 .none with
   |.int _ t=>t
   |_=>0)
  |_=>0)
 |none=>0
noncomputable def FP (κ:Addr→Int)(τ:Addr→Tok)(as:List Addr)(D:Addr)(p:Nat)(oI:Obj)(ck cv tgk:Value)(hck hcv htk:Bool):Prop:=
 (p=0∧hck=false∧htk=false∧oI.cls= .type "list_iterator"∧oI.data= .fields #[.ref D,.int (0:Nat) 0])∨
 (∃a b,as[p]?=some a∧b∈as∧hck=true∧hcv=true∧htk=true∧ck= .int (κ a) (τ a)∧cv= .ref a∧tgk= .int (κ b) (τ b)∧κ b≠κ a∧(∀i c,i<p→as[i]?=some c→κ c≠κ a)∧oI.cls= .type "list_iterator"∧oI.data= .fields #[.ref D,.int (p+1:Nat) 0])∨
 (p=as.length∧hck=false∧oI.cls= .type "list_iterator"∧∃z,oI.data= .fields #[.none,z])
noncomputable def Po (κ:Addr→Int)(τ:Addr→Tok)(as:List Addr)(D:Addr)(n7:Nat)(dd:Addr)(od:Obj)(tl:List (Addr×Obj))(st:Int)(done:List Value→Nat→Prop)(it:Value)(k:Nat)(m:Str→Option Value)(nw:List (Addr×Obj)):Prop:=
 ∃(x d I y d2 T0 res:Addr) (oI:Obj) (t0:Tok) (p:Nat) (us:List Value) (cg ck cv tgk:Value) (hck hcv htk:Bool) (ser:Int) (ts ti:Tok),it= .ref x∧k+p=as.length∧
  nw=(I,oI)::(x,gbO d cg ck cv hck hcv htk I y (.int ser ts) tgk)::(d,dictOf [] 0)::(T0,{cls:=.type "tuple",data:=.seq #[.int 0 t0]})::(y,BH d2 T0)::(d2,dictOf [] 0)::(res,listOf us.toArray 0)::(D,rl as n7)::(dd,od)::tl∧
  FP κ τ as D p oI ck cv tgk hck hcv htk∧Has m [(Str.ofString "result",.ref res),(Str.ofString "i",.int (st-1+p) ti)]∧us.length=as.length∧done us p∧(∀q∈tl,q.1≠res)∧D≠res∧dd≠res∧d≠d2
theorem Gb {a1 a2 a3 a4 a5 a6 a7 a8 a9 b1 b2 p:Addr×Obj}{tl:List (Addr×Obj)}(h:p∈a1::a2::a3::a4::a5::a6::a7::a8::a9::tl):p∈a1::a2::a3::a4::b1::a5::a6::a7::b2::a8::a9::tl:=
 Bj [0,1,2,3,5,6,7,9,10] 11 rfl h
noncomputable abbrev CZ (d T0:Addr)(t0:Tok)(y d2 res:Addr)(us:List Value)(D:Addr)(as:List Addr)(n7:Nat)(dd:Addr)(od:Obj)(tl:List (Addr×Obj)):List (Addr×Obj):=
 (d,dictOf [] 0)::(T0,{cls:=.type "tuple",data:=.seq #[.int 0 t0]})::(y,BH d2 T0)::(d2,dictOf [] 0)::(res,listOf us.toArray 0)::(D,rl as n7)::(dd,od)::tl
theorem Iw {d T0:Addr}{t0:Tok}{y d2 res:Addr}{us:List Value}{D:Addr}{as:List Addr}{n7:Nat}{dd:Addr}{od:Obj}{tl:List (Addr×Obj)}(ho:od.cls= .type "list")(htl:∀q∈tl,q.2.cls= .type "tuple"):
  ∀q∈CZ d T0 t0 y d2 res us D as n7 dd od tl,q.2.cls≠.ref 96∧q.2.cls≠.type "list_iterator"∧q.2.cls≠.ref 141:=fun q hq=>by
 simp only [CZ,List.mem_cons] at hq
 rcases hq with rfl|rfl|rfl|rfl|rfl|rfl|rfl|hq
 all_goals first|(rw [htl q hq];exact⟨by simp,by simp,by simp⟩)|(dsimp only;rw [ho];exact⟨by simp,by simp,by simp⟩)|exact⟨by simp,by simp,by simp⟩
theorem HL {hh h7:Heap}{κ:Addr→Int}{τ:Addr→Tok}{d T0:Addr}{t0:Tok}{y d2 res:Addr}{us:List Value}{D:Addr}{as:List Addr}{n7:Nat}{dd:Addr}{od:Obj}(keys:∀a∈as,∃w n,h7.get? a=some (seqObj "tuple" #[.int (κ a) (τ a),w] n))
  (N:∀q∈CZ d T0 t0 y d2 res us D as n7 dd od (CB h7 as),hh.get? q.1=some q.2):EL κ τ as d D y d2 T0 t0 hh:=by
 refine⟨N _ (.head _),⟨_,N _ mm5,rfl,n7,rfl⟩,N _ mm2,N _ mm3,N _ mm1,fun a ha=>?_⟩
 obtain⟨w',n',e⟩:=keys a ha
 have e2:hh.get? a=some (Fq h7 a):=N (a,Fq h7 a) (.tail _ (.tail _ (.tail _ (.tail _ (.tail _ (.tail _ (.tail _ (List.mem_map.mpr ⟨a,ha,rfl⟩))))))))
 refine⟨w',n',e2.trans ?_⟩
 show some ((h7.get? a).getD _)=_
 rw [e];rfl
theorem Ih {h7:Heap}{κ:Addr→Int}{τ:Addr→Tok}{as:List Addr}(keys:∀a∈as,∃w n,h7.get? a=some (seqObj "tuple" #[.int (κ a) (τ a),w] n)):∀q∈CB h7 as,q.2.cls= .type "tuple":=fun q hq=>by
 obtain⟨a,ha,rfl⟩:=List.mem_map.mp hq
 obtain⟨w',n',e⟩:=keys a ha
 show((h7.get? a).getD _).cls=_
 rw [e];rfl
theorem Cy {as:List Addr}{i:Nat}{c:Addr}(e:as[i]?=some c):i<as.length:=by
 rcases Nat.lt_or_ge i as.length with q|q
 ·exact q
 ·rw [List.getElem?_eq_none q] at e;cases e
theorem Hr {κ:Addr→Int}{as:List Addr}{p q:Nat}{a:Addr}(sorted:as.Pairwise fun x y=>κ x≤κ y)(hpa:as[p]?=some a)(hpq:p<q)(hrun2:∀i c,p≤i→i<q→as[i]?=some c→κ c=κ a)(hnext:∀c,as[q]?=some c→κ c≠κ a):
  ∀i c a5,i<q→as[i]?=some c→as[q]?=some a5→κ c≠κ a5:=fun i c a5 hi hc h5=>by
 have srt:∀{i j:Nat} {c b:Addr},i<j→as[i]?=some c→as[j]?=some b→κ c≤κ b:=fun{i j c b} hij ec eb=>by
  have z:=List.pairwise_iff_getElem.mp sorted i j (Cy ec) (Cy eb) hij
  rw [List.getElem?_eq_getElem (Cy ec)] at ec
  rw [List.getElem?_eq_getElem (Cy eb)] at eb
  rw [Option.some.inj ec,Option.some.inj eb] at z
  exact z
 have n1:=hnext a5 h5
 have n2:=srt hpq hpa h5
 rcases Nat.lt_or_ge i p with z|z
 ·have:=srt z hc hpa
  omega
 ·have:=hrun2 i c z hi hc
  omega
theorem Hp {π:Addr→Int×Int}{as:List Addr}{ns:List Int}(pm:(as.map π).Perm (Aa ns))(h64:ns.length<64)(pv:(as.map π).Pairwise fun p q=>pk p<pk q):as.Pairwise fun x y=>(π x).1≤(π y).1:=by
 rw [List.pairwise_map] at pv
 rw [List.pairwise_iff_getElem] at pv⊢
 intro i j hi hj hij
 have z:=pv i j hi hj hij
 have s1:=BZ (pm.mem_iff.mp (List.mem_map_of_mem (List.getElem_mem hi)))
 have s2:=BZ (pm.mem_iff.mp (List.mem_map_of_mem (List.getElem_mem hj)))
 unfold pk at z
 exact Ar.lexL (by decide) (Int.lt_of_lt_of_le s2.2 (Int.le_trans (Int.ofNat_le.mpr (Nat.le_trans (Nat.le_of_lt h64) (by decide))) (Int.le_add_of_nonneg_right s1.1))) (Int.le_of_lt z)
theorem It {g h2 h12:Heap}{L:Addr}{m:Str→Option Value}{R G dG I x:Addr}{oR oG odG oI ox oI' ox':Obj}{tl:List (Addr×Obj)}(F:Fr g L h2 m)(N:News g L h2 ((I,oI)::(x,ox)::tl))(cx:ox.cls= .ref 96)(cI:oI.cls= .type "list_iterator")
  (rc:∀q∈tl,q.2.cls≠.ref 96∧q.2.cls≠.type "list_iterator"∧q.2.cls≠.ref 141) (k:∀b o,h2.get? b=some o→b≠x→b≠I→h12.get? b=some o) (eI:h12.get? I=some oI') (ex:h12.get? x=some ox') (eR:h12.get? R=some oR) (eG:h12.get? G=some oG) (edG:h12.get? dG=some odG)
  (fR:h2.get? R=none) (fG:h2.get? G=none) (fdG:h2.get? dG=none):News g L h12 ((R,oR)::(G,oG)::(dG,odG)::(I,oI')::(x,ox')::tl):=by
 refine Al F (Al F (Al F ?_ fdG edG) fG eG) fR eR
 intro q hq
 k_extra "07"
 ·exact⟨eI,(N _ (.head _)).2⟩
 k_extra "07"
 ·exact⟨ex,(N _ mm1).2⟩
 have e2:=N q (.tail _ (.tail _ hq))
 exact⟨k _ _ e2.1 (AS e2.1 (N _ mm1).1 (by rw [cx];exact(rc q hq).1)) (AS e2.1 (N _ (.head _)).1 (by rw [cI];exact(rc q hq).2.1)),e2.2⟩
theorem Ir {g h2 h14 h15:Heap}{L:Addr}{m:Str→Option Value}{R G dG I x DD:Addr}{oR oG odG oI ox oI' ox' oDD:Obj}{tl:List (Addr×Obj)}(F:Fr g L h14 m)(N:News g L h14 ((R,oR)::(G,oG)::(dG,odG)::(I,oI)::(x,ox)::tl))(cx:ox.cls= .ref 96)(cI:oI.cls= .type "list_iterator")(cG:oG.cls= .ref 141)
  (rc:∀q∈tl,q.2.cls≠.ref 96∧q.2.cls≠.type "list_iterator"∧q.2.cls≠.ref 141) (h2t:∀q∈tl,h2.get? q.1=some q.2) (fdG:h2.get? dG=none) (eDD:h15.get? DD=some oDD) (fDD:h14.get? DD=none) (eI:h15.get? I=some oI') (ex:h15.get? x=some ox'):
  ∀q∈(DD,oDD)::(I,oI')::(x,ox')::tl,(q∈(R,oR)::(G,oG)::(dG,odG)::(I,oI)::(x,ox)::tl∧q.1∉ [G,dG,x,I])∨(h15.get? q.1=some q.2∧q.1≠L∧g.get? q.1=none):=by
 intro q hq
 k_extra "07"
 ·exact .inr ⟨eDD,CL F fDD⟩
 k_extra "07"
 ·exact .inr ⟨eI,(N _ mm3).2⟩
 k_extra "07"
 ·exact .inr ⟨ex,(N _ mm4).2⟩
 refine .inl ⟨.tail _ (.tail _ (.tail _ (.tail _ (.tail _ hq)))),?_⟩
 have e2:=(N q (.tail _ (.tail _ (.tail _ (.tail _ (.tail _ hq)))))).1
 k_extra "0H"
 refine⟨AS e2 (N _ mm1).1 (by rw [cG];exact(rc q hq).2.2),fun z=>?_,AS e2 (N _ mm4).1 (by rw [cx];exact(rc q hq).1),AS e2 (N _ mm3).1 (by rw [cI];exact(rc q hq).2.1)⟩
 have o2:=h2t q hq
 rw [z,fdG] at o2;cases o2
theorem Iq {g h2 h12:Heap}{L:Addr}{I x d T0 y d2 res D dd:Addr}{t0:Tok}{us:List Value}{as:List Addr}{n7:Nat}{oI ox od:Obj}{tl:List (Addr×Obj)}(N:News g L h2 ((I,oI)::(x,ox)::CZ d T0 t0 y d2 res us D as n7 dd od tl))(cx:ox.cls= .ref 96)(cI:oI.cls= .type "list_iterator")(cd:od.cls= .type "list"):
  ∀q∈ [(res,listOf us.toArray 0),(dd,od)],(q∈(I,oI)::(x,ox)::CZ d T0 t0 y d2 res us D as n7 dd od tl∧q.1∉ [x,d,I])∨(h12.get? q.1=some q.2∧q.1≠L∧g.get? q.1=none):=by
 intro q hq
 have hm:q∈(I,oI)::(x,ox)::CZ d T0 t0 y d2 res us D as n7 dd od tl∧q.2.cls= .type "list":=by
  k_extra "01"
  k_extra "051"
  ·exact⟨.tail _ mm5,rfl⟩
  ·exact⟨.tail _ mm7,cd⟩
 have e2:=(N q hm.1).1
 refine .inl ⟨hm.1,?_⟩
 k_extra "0H"
 exact⟨AS e2 (N _ mm1).1 (by rw [hm.2,cx];simp),AS e2 (N _ mm2).1 (by rw [hm.2];simp),AS e2 (N _ (.head _)).1 (by rw [hm.2,cI];simp)⟩
theorem FP.isIt {κ:Addr→Int}{τ:Addr→Tok}{as:List Addr}{D:Addr}{p:Nat}{oI:Obj}{ck cv tgk:Value}{hck hcv htk:Bool}(ph:FP κ τ as D p oI ck cv tgk hck hcv htk):oI.cls= .type "list_iterator":=by
 rcases ph with⟨_,_,_,c,_⟩|⟨_,_,_,_,_,_,_,_,_,_,_,_,c,_⟩|⟨_,_,c,_⟩<;>exact c
theorem Iv {d T0:Addr}{t0:Tok}{y d2 res:Addr}{us us':List Value}{D:Addr}{as:List Addr}{n7:Nat}{dd:Addr}{od:Obj}{tl:List (Addr×Obj)}{P:Addr→Prop}(h:∀q∈CZ d T0 t0 y d2 res us D as n7 dd od tl,P q.1):∀q∈CZ d T0 t0 y d2 res us' D as n7 dd od tl,P q.1:=fun q hq=>by
 simp only [CZ,List.mem_cons] at hq h
 rcases hq with rfl|rfl|rfl|rfl|rfl|rfl|rfl|hq
 ·exact h _ (.inl rfl)
 ·exact h _ (.inr (.inl rfl))
 ·exact h _ (.inr (.inr (.inl rfl)))
 ·exact h _ (.inr (.inr (.inr (.inl rfl))))
 ·exact h (res,listOf us.toArray 0) (.inr (.inr (.inr (.inr (.inl rfl)))))
 ·exact h _ (.inr (.inr (.inr (.inr (.inr (.inl rfl))))))
 ·exact h _ (.inr (.inr (.inr (.inr (.inr (.inr (.inl rfl)))))))
 ·exact h _ (.inr (.inr (.inr (.inr (.inr (.inr (.inr hq)))))))
theorem K2 {g h2:Heap}{L:Addr}{I2 DD I x d T0 y d2 res D dd:Addr}{t0:Tok}{us us':List Value}{as:List Addr}{n7:Nat}{oJ oDD oI ox od:Obj}{tl:List (Addr×Obj)}(N:News g L h2 ((I2,oJ)::(DD,oDD)::(I,oI)::(x,ox)::CZ d T0 t0 y d2 res us D as n7 dd od tl))(cx:ox.cls= .ref 96)(cI:oI.cls= .type "list_iterator")(cJ:oJ.cls= .type "list_iterator")
  (nDD:DD≠res) (q1:∀q∈tl,q.1≠res) (q2:D≠res) (q3:dd≠res):
  Upd res (listOf us.toArray 0) (listOf us'.toArray 0) ((I2,oJ)::(DD,oDD)::(I,oI)::(x,ox)::CZ d T0 t0 y d2 res us D as n7 dd od tl) ((I2,oJ)::(DD,oDD)::(I,oI)::(x,ox)::CZ d T0 t0 y d2 res us' D as n7 dd od tl):=by
 have R:=(N _ mm8)
 have R:=R.1
 have ne:∀{q:Addr×Obj},q∈(I2,oJ)::(DD,oDD)::(I,oI)::(x,ox)::CZ d T0 t0 y d2 res us D as n7 dd od tl→q.2.cls≠.type "list"→q.1≠res:=fun{q} hm hc=>AS (N q hm).1 R (by simpa using hc)
 refine .tail (ne (.head _) (by rw [cJ];simp)) (.tail nDD (.tail (ne mm2 (by rw [cI];simp)) (.tail (ne mm3 (by rw [cx];simp)) (.tail (ne mm4 (by simp)) (.tail (ne mm5 (by simp)) (.tail (ne mm6 (by simp)) (.tail (ne mm7 (by simp)) (.head ?_))))))))
 intro p hp
 k_extra "02"
 ·exact q2
 k_extra "02"
 ·exact q3
 ·exact q1 p hp
theorem Iu {st:Int}{p L:Nat}(hst:st.natAbs≤1048576)(hp:p≤64)(hL:L≤64):Float64.add (Float64.ofInt (st-1+p)) (Float64.ofFrac (decide ((L:Int)+1<0)) ((L:Int)+1).natAbs 2)=hf (rk2 st p L):=by
 show Float64.add _ (hf ((L:Int)+1))=_
 rw [Dr (by exact Ar.q13 hst hp),EK (by exact Ar.q13 hst hp) (by exact Ar.q170 hL) (by exact Ar.q29 hst hp hL)]
 congr 1
 unfold rk2
 omega
theorem Hq {st:Int}{κ:Addr→Int}{p q:Nat}{as:List Addr}{ns:List Int}{a:Addr}(hst:st.natAbs≤1048576)(hal:as.length=ns.length)(h64:ns.length<64)(hpq:p<q)(hql:q≤as.length)
  (hc:as.countP (fun c=>decide (κ c<κ a))=p∧as.countP (fun c=>decide (κ c=κ a))=q-p):
  Float64.add (Float64.ofInt (st-1+p)) (Float64.ofFrac (decide ((((as.drop p).take (q-p)).length:Int)+1<0)) ((((as.drop p).take (q-p)).length:Int)+1).natAbs 2)=hf (rk2 st (as.countP fun c=>decide (κ c<κ a)) (as.countP fun c=>decide (κ c=κ a))):=by
 k_extra "01r"
 rw [Iu hst (by exact Nat.le_of_lt (Nat.lt_trans (Nat.lt_of_lt_of_le hpq hql) (hal▸h64))) (by exact Ar.q176 hal h64 hql hglen),hc.1,hc.2,hglen]
theorem Jz {as:List Addr}{p q i:Nat}{b:Addr}(hql:q≤as.length)(hb:((as.drop p).take (q-p))[i]?=some b):i<q-p∧as[p+i]?=some b:=by
 have hi:i<q-p:=by
  have:=Cy hb
  rw [List.length_take,List.length_drop] at this
  exact Ar.q51 hql this
 rw [List.getElem?_take_of_lt hi,List.getElem?_drop] at hb
 exact⟨hi,hb⟩
theorem Jy {as:List Addr}{p q i k:Nat}(hpq:p<q)(hql:q≤as.length)(hk:k+i=q-p)(hb:((as.drop p).take (q-p))[i]?=none):p+i=q:=by
 have:=List.getElem?_eq_none_iff.mp hb
 rw [List.length_take,List.length_drop] at this
 exact Ar.q58 hpq hql hk this
theorem PX {k:Int}{n:Nat}(h:k<n)(h64:n<64):k<2^63:=by exact Int.lt_trans h (Ar.zupL h64 rfl)
theorem Lb {k p q n:Nat}(hk:k+p=n)(hpq:p<q)(hql:q≤n):n-q<k∧n-q+q=n:=by exact Ar.q121 hk hpq hql
theorem rk_i {as:List Addr}{p q:Nat}{st:Int}(hpq:p<q)(hql:q≤as.length):st-1+(p:Int)+(((as.drop p).take (q-p)).length:Int)=st-1+(q:Int):=by
 rw [List.length_take,List.length_drop];exact Ar.q60 hpq hql
theorem Ld {k i n:Nat}(h:k+i=n)(hi:i<n):k-1<k∧k-1+(i+1)=n:=by exact Ar.q126 h hi
theorem Gh {π:Addr→Int×Int}{st:Int}{as:List Addr}{us:List Value}{ns:List Int}{p q i:Nat}{a b:Addr}{t:Tok}(pm:(as.map π).Perm (Aa ns))(hal:as.length=ns.length)(hus:us.length=as.length)(hb:as[p+i]?=some b)(hi:i<q-p)
  (hrun2:∀j c,p≤j→j<q→as[j]?=some c→(π c).1=(π a).1) (h:BB π st as us (p+i)):
  BB π st as (us.set (π b).2.toNat (.float (hf (rk2 st (as.countP fun c=>decide ((π c).1<(π a).1)) (as.countP fun c=>decide ((π c).1=(π a).1)))) t)) (p+(i+1)):=by
 have e:=hrun2 (p+i) b (by omega) (by exact Ar.q215 hi) hb
 have z:=BB.step (t:=t) (Fl pm) (fun a ha=>by
  have:=BZ (pm.mem_iff.mp (List.mem_map_of_mem (f:=π) ha))
  rw [hus,hal];exact this) hb h
 rw [e] at z
 exact z
section
theorem kw_W20_1:True:=by
 k_with "ar"=>((fail_if_success k_extra "oW20");with_reducible first|assumption|exact Ne.symm ‹_›|exact Int.ofNat_lt.mpr ‹_›|exact Nat.zero_le _|exact Int.natCast_nonneg _|exact Ar.q21 ‹_› ‹_› ‹_› ‹_› ‹_› ‹_›|exact Ar.q43 ‹_› ‹_› ‹_› ‹_› ‹_›|exact Ar.q117 ‹_›|exact Ar.q123 ‹_› ‹_›|exact Ar.q150 ‹_› ‹_› ‹_› ‹_› ‹_›|exact Ar.q241 ‹_›|exact Ar.r3 ‹_› ‹_› ‹_› ‹_› ‹_› ‹_› ‹_›|exact Ar.r54 ‹_› ‹_› ‹_›|exact Ar.r119 ‹_› ‹_›|exact Ar.r149 ‹_› ‹_›|exact Ar.r226 ‹_› ‹_›|exact Ar.r246 ‹_› ‹_›|exact Ar.r322 ‹_›|k_extra "arN")
 trivial
section
variable{w:World}{dp un:Nat}{gd:Option (List Code)}{s:Shared}{loose:List Str}{mz:ExcName→Option Value}{mg mb:Str→Option Value}{Q E:Value→Shared→Prop}{base:Heap}{ou:List Env}
theorem kw_W20_2:True:=by
 k_with "Mcall type:itemgetter"=>((fail_if_success k_extra "oW20");refine Stop.at ?_)
 k_with "Mexec For Tuple Call cons nil"=>((fail_if_success k_extra "oW20");refine Stop.at ?_)
 trivial
local macro_rules | `(tactic| k_all) => `(tactic| first | with_reducible assumption | (rename AllLt _ (CB _ _) => aX; exact Jd aX (by omega)))
theorem kw_W20_3:True:=by
 k_with "Mcall builtin:iter"=>((fail_if_success k_extra "oW20");(k_here;(with_unfolding_all refine' Db ?k1 ?k2 ?k3 ?_;(case k1=>k_asm);(case k2=>k_asm);(case k3=>exact News.isList (by k_asm) (by k_mem));k_whole);intro q_I' q_h' q_F' q_N' q_l1;(try k_lt q_l1);(try k_sweep)))
 k_with "MpyIter ref"=>((fail_if_success k_extra "oW20");refine Stop.at ?_)
 k_with "Mcall type:zip"=>((fail_if_success k_extra "oW20");refine Stop.at ?_)
 k_with "Mcall builtin:sorted"=>((fail_if_success k_extra "oW20");refine Stop.at ?_)
 trivial
theorem H3 {prog:Program}{A:Around}{elts:List PySem.Expr}{c1}{pos:Pos}{x R:Addr}{o:Obj}{C:Addr}{Q:Unit→Shared→Prop}{E:Value→Shared→Prop}{s:Shared}(hx:s.heap.get? x=some o)(hc:o.cls= .ref C)(h:Q () s):
  wpAny (model prog w) A (letOwnedTupleGo (.Tuple elts c1 pos) (.ref x) (.ref R)) Q E s:=by
 unfold letOwnedTupleGo
 refine wpAny_bind (wpAny_load hx ?_)
 rw [hc]
 exact wpAny_pure h
theorem kw_W20_4:True:=by
 k_with "Mexec For Tuple Name cons nil"=>((fail_if_success k_extra "oW20");refine Stop.at ?_)
 k_with "MsetItem ref int float"=>((fail_if_success k_extra "oW20");refine Stop.at ?_)
 k_with "Mcall type:list"=>((fail_if_success k_extra "oW20");refine Stop.at ?_)
 trivial
theorem Dj {n:Int}(h:n.natAbs<1073741824):n.natAbs<2^1023:=Nat.lt_of_lt_of_le h (Nat.le_trans (show 1073741824≤2^30 by decide) (Nat.pow_le_pow_right (by decide) (by decide)))
theorem div2 {prog:Program}{A:Around}{a:Int}{t u:Tok}{Q E:Value→Shared→Prop}{s:Shared}(hA:A.handled=none)(hs:a.natAbs<1073741824)(h:Q (.float (Float64.ofFrac (decide (a<0)) a.natAbs 2) s.toks) {s with toks:=s.toks+1}):
  wpAny (model prog w) A (binaryOp .Div (.int a t) (.int 2 u)) Q E s:=by
 refine PySem.Flt.div_ii_fits hA (Dj hs) (fun e=>absurd e (by decide)) fun _ _=>?_
 k_extra "03A"
 rw [e]
 exact h
theorem kw_W20_5:True:=by
 k_with "MbinaryOp Div int int"=>((fail_if_success k_extra "oW20");(with_reducible refine div2 rfl (by first|exact Ar.nrk2 ‹_› ‹_› ‹_› ‹_›|omega) ?_))
 k_with "MbinaryOp Add int float"=>((fail_if_success k_extra "oW20");(with_reducible refine add_if_fits (Dj (by first|exact Ar.nrk ‹_› ‹_› ‹_› ‹_› ‹_› ‹_›|omega)) ?_))
 trivial
theorem Eh {d:Addr}{vs:List Value}{ns:List Int}{n:Nat}{kw:List (Str×Value)}{binds:List (Str×Value)}{st:Int}{tst tt:Tok}(hne:0<ns.length)(hst:st.natAbs≤1048576)(SD:Ae base ou s.heap)(X:(Mine.hd.heap_39 w.params).In base)(T:Top Mine.hd.view_39 loose mz mg mb base)
  (hd:dp≤400) (hu:un≤7000) (hd1:s.heap.get? d=some (listOf vs.toArray n)) (hd0:base.get? d=none) (hi:IntsAre vs ns) (h64:ns.length<64) (tok0:∀m t,Value.int m t∈vs→t≠0) (tok1:∀m k t,Value.int m t∈vs→Value.int k t∈vs→m=k)
  (hbind:∀oc od fd osl,(Mine.hd.heap_39 w.params).lookup 250=some ⟨oc,od,.func fd,osl⟩→BindsTo s fd ⟨[.ref d],kw⟩ binds)
  (hnm:∀y∈binds,y.1∈ [Str.ofString "data",Str.ofString "key",Str.ofString "reverse",Str.ofString "ties",Str.ofString "start"])
  (hHas:Has (fun y=>binds.reverse.lookup y) [(Str.ofString "data",.ref d),(Str.ofString "key",.none),(Str.ofString "reverse",.bool false),(Str.ofString "ties",.str (Str.ofString "average") tt),(Str.ofString "start",.int st tst)])
  (h:∀h' tk' R us,h'.get? R=some (listOf us.toArray 0)→AU us (ns.map (AH st ns))→s.heap.get? R=none→Up (AF ou) [] s.heap h'→Q (.ref R) {s with heap:=h',toks:=tk'}):
  wpAny (model PR w) (AR dp un (some ou) gd) (call (.ref 250) [.ref d] kw) Q E s:=by
 revert w dp un gd s loose mz mg mb Q E base ou d vs ns n kw binds st tst tt
 as_aux_lemma=>
 intro pick_ w dp un gd s loose mz mg mb Q E base ou d vs ns n kw binds st tst tt
 intro hne hst SD X T hd hu hd1 hd0 hi h64 tok0 tok1 hbind hnm hHas h
 k_extra "0D"
 refine' Am (binds:=binds) [(d,listOf vs.toArray n)] SD X T ?m ?k6 ?k7 ?k8 ?k9 ?kB ?_ ?c2 ?c3 ?c4 ?c5
 k_extra "0k"
 k_extra "02m"
 case k9=>exact hbind _ _ _ _ (by k_is)
 k_extra "0E"
 intro g L' h₁ F0 N X' T' B' Dt keep lt le
 dsimp only
 k_extra "04P"
 k_fold
 have F:=hHas.fr F0
 clear F0
 k_steps
 k_extra "0e"
 k_extra "0a"
 intro clo_ tk p_ x_ x_ F5 N5
 k_extra "03"
 refine Ic X' T' (show dp+1≤800 by exact Ar.up ‹_› (by rfl)) (N5 _ (.head _)).2.2 F5 ⟨_,(N5 _ mm2).1,rfl,n,rfl⟩ (N5 _ (.head _)).1 (N5 _ mm1).1 fun z li TI TO h6 tk6 S z0 li0 to0 k6=>?_
 have F6:=F5.kept k6
 have N6:=N5.grown k6
 have nb:∀{x:Addr},Heap.get? _ x=none→g.get? x=none∧x≠L':=fun{x} e=>by
  refine⟨Cf fun o q=>?_,fun q=>?_⟩
  ·rw [F5.keep _ _ q] at e;cases e
  ·obtain⟨oL,_,_,hL,_⟩:=F5.ns
   rw [←q] at hL
   rw [hL] at e;cases e
 have zn:=nb z0
 have lin:=nb li0
 have ton:=nb to0
 have cn:=(N5 _ (.head _)).2
 have dn:=(N5 _ mm1).2
 clear F5 N5 z0 li0 to0 k6 nb
 intro clo_ z li TI TO h6 tk6 p_ S F6 N6 zn lin ton
 k_steps
 k_extra "03"
 refine Gd X' T' (show dp+1≤800 by exact Ar.up ‹_› (by rfl)) cn.2 dn.2 zn.1 lin.1 ton.1 F6.keep S hi h64 fun D as h7 tk7 n7 pm pa pv pv' ax fD eD k7=>?_
 have F7:=BP F6 [z,li,_,TO] (fun b o e hb=>k7 b o (fun q=>hb (by rw [q];exact .head _)) (fun q=>hb (by rw [q];exact .tail _ (.head _))) (fun q=>hb (by rw [q];exact .tail _ mm1)) (fun q=>hb (by rw [q];exact .tail _ mm2)) e) (by
  intro x hx
  k_extra "029"
  ·exact zn
  ·k_extra "029"
   ·exact lin
   ·k_extra "029"
    ·exact⟨cn.2,cn.1⟩
    ·k_extra "029"
     ·exact ton
     ·cases hx)
 have SA:=S.apart
 have Dn:D≠L'∧g.get? D=none:=by
  refine⟨fun q=>?_,Cf fun o q=>?_⟩
  ·obtain⟨oL,_,_,hL,_⟩:=F6.ns
   rcases fD oL (by rw [q];exact hL) with e|e
   ·exact zn.2 (e.symm.trans q)
   ·exact lin.2 (e.symm.trans q)
  ·rcases fD o (F6.keep _ _ q) with e|e
   ·rw [e,zn.1] at q;cases q
   ·rw [e,lin.1] at q;cases q
 have N7:News g L' h7 [(D,rl as n7),(d,listOf vs.toArray n)]:=fun p hp=>by
  k_extra "02"
  ·exact⟨eD,Dn⟩
  ·k_extra "02"
   ·exact⟨k7 _ _ SA.dz SA.dli SA.dc SA.dto (N6 _ mm2).1,(N6 _ mm2).2⟩
   ·cases hp
 have hal:as.length=ns.length:=by have e:=pm.length_eq;rw [List.length_map,Ab] at e;exact e
 have asx:∀x∈as,g.get? x=none∧x≠L':=fun x hx=>by
  refine⟨Cf fun o q=>?_,fun q=>?_⟩
  ·have:=F6.keep _ _ q
   rw [ax x hx] at this;cases this
  ·obtain⟨oL,_,_,hL,_⟩:=F6.ns
   rw [←q,ax x hx] at hL;cases hL
 have asD:∀p∈CB h7 as,p.1≠D:=HH fun x hx q=>by
  obtain⟨_,_,_,e⟩:=pa x hx
  rw [q,eD] at e;simp at e
 have asd:∀p∈CB h7 as,p.1≠d:=HH fun x hx q=>by
  have e:=ax x hx
  have e':=(N6 _ mm2).1
  rw [q] at e;rw [e] at e';cases e'
 have N8:News g L' h7 ((D,rl as n7)::(d,listOf vs.toArray n)::CB h7 as):=fun p hp=>by
  k_extra "02"
  ·exact N7 _ (.head _)
  ·k_extra "02"
   ·exact N7 _ mm1
   ·exact Hg (fun x hx=>by obtain⟨t,u,n,e⟩:=pa x hx;exact⟨_,e⟩) (fun _ _ _ e=>e) asx p hp
 clear F6 N6 N7 zn lin ton cn dn S SA k7 fD eD Dn ax
 have sorted:=Hp pm h64 pv'
 intro clo_ D as h7 tk7 n7 p_ pm pa pv pv' F7 hal asx asD asd N8 sorted
 k_steps
 k_extra "01X"
 k_extra "01p"
 rename _<_∧_<_∧AllLt _ _=>lq
 have hU:=lq.2.2
 intro clo_ tk
 k_extra "03"
 k_extra "037"
 clear lq
 k_steps
 rename Fr g L' _ _=>F10
 rename News g L' _ _=>N10
 intro clo_ tk p_ x_ F10 N10
 k_extra "03"
 have kX':(Mine.hd.heap_39 w.params).In g:=X'
 refine Fo (K:=Mine.hd.heap_39 w.params) (f:=78) (g:=.ref 92) (od:=some (dictOf [] 0)) (kX'.keeps F10.keep) ⟨(N10 _ mm1).1,rfl,rfl,(N10 _ mm2).1⟩ (by k_is) (by k_is) (by k_is) ?_
 refine KH F10.keep kX' T' (show dp+1≤800 by exact Ar.up ‹_› (by rfl)) fun h11 tk11 k11=>?_
 have F11:=F10.kept k11
 have N11:=N10.grown k11
 intro clo_ h11 tk11 p_ k11 F11 N11
 refine⟨rfl,(kX'.keeps F10.keep).keeps k11,⟨(N11 _ mm1).1,rfl,rfl,(N11 _ mm2).1⟩,?_⟩
 have N12:=fun(p:Addr×Obj) (hp:p∈_::_::_::_::_::_::_::_::_::CB h7 as)=>N11 p (Gb hp)
 refine EN.of (Po (fun a=>(pairOf h7 a).1) (Ap h7) as D n7 d (listOf vs.toArray n) (CB h7 as) st (BB (pairOf h7) st as)) as.length ⟨KtsTurn.refl,F11,N12,B',Dt⟩ ?_ ?_
 ·refine⟨_,_,_,_,_,_,_,_,_,0,_,_,_,_,_,_,_,_,_,_,_,rfl,rfl,rfl,.inl ⟨rfl,rfl,rfl,rfl,rfl⟩,⟨rfl,(if_neg (by decide)).trans ((if_pos rfl).trans (by rw [show st-1+((0:Nat):Int)=st-1 by exact Int.add_zero _])),trivial⟩,?_,?_,?_,?_,?_,?_⟩
  ·simp
  ·exact fun j a hj=>absurd hj (Nat.not_lt_zero _)
  ·exact Jd hU (by exact Ar.r193 ‹_›)
  ·exact neN (by omega)
  ·exact neN (by omega)
  ·exact neN (by omega)
 clear F10 F11 N10 N11 N12 k11
 have keyOf:∀a∈as,∃w n,h7.get? a=some (seqObj "tuple" #[.int (pairOf h7 a).1 (Ap h7 a),w] n)∧Value.int (pairOf h7 a).1 (Ap h7 a)∈vs:=fun a ha=>by
  obtain⟨t,u,n1,e1⟩:=pa a ha
  obtain⟨v,w,n2,hv,e2⟩:=pv a ha
  have et:Ap h7 a=t:=by unfold Ap;rw [e1];rfl
  rw [e1] at e2
  simp only [Option.some.injEq,Obj.mk.injEq,Data.seq.injEq,true_and,and_true] at e2
  have e3:v= .int (pairOf h7 a).1 t:=by
   have:=e2.1
   simp at this
   exact this.1.symm
  rw [et]
  exact⟨_,_,e1,e3▸hv⟩
 rintro k m₁ nw₁ h₂ tk₂ g₂ G₂ ⟨x,d9,I9,y9,d29,T09,res,oI,t0,p,us,cg,ck,cv,tgk,hck,hcv,htk,ser,ts,ti,hit,hk,rfl,ph,hm,hus,hdone,q1,q2,q3,q4⟩
 have hit':=(Value.ref.inj hit).symm
 subst hit'
 clear hit
 have N2:=G₂.news
 have st2:base.StaysIn h₂:=fun b o e=>G₂.fr.keep b o (G₂.below.stays b o e)
 have X2:(Mine.hd.heap_39 w.params).In h₂:=X.keeps st2
 have b0:∀{b:Addr},g₂.get? b=none→base.get? b=none:=fun{b} e=>fresh_of_stays G₂.below.stays e
 have bn:∀q∈(I9,oI)::(x,gbO d9 cg ck cv hck hcv htk I9 y9 (.int ser ts) tgk)::(d9,dictOf [] 0)::(T09,{cls:=.type "tuple",data:=.seq #[.int 0 t0]})::(y9,BH d29 T09)::(d29,dictOf [] 0)::(res,listOf us.toArray 0)::(D,rl as n7)::(d,listOf vs.toArray n)::CB h7 as,base.get? q.1=none∧q.1∉L'::AF ou:=fun q hq=>by
  refine⟨b0 (N2 q hq).2.2,fun m=>?_⟩
  rcases List.mem_cons.mp m with m|m
  ·exact(N2 q hq).2.1 m
  ·obtain⟨o,_,_,e,_⟩:=G₂.dicts _ m
   rw [(N2 q hq).2.2] at e;cases e
 have asIn:∀a∈as,(a,Fq h7 a)∈CB h7 as:=fun a ha=>List.mem_map.mpr ⟨a,ha,rfl⟩
 have tlIn:∀q∈CB h7 as,q∈(I9,oI)::(x,gbO d9 cg ck cv hck hcv htk I9 y9 (.int ser ts) tgk)::(d9,dictOf [] 0)::(T09,{cls:=.type "tuple",data:=.seq #[.int 0 t0]})::(y9,BH d29 T09)::(d29,dictOf [] 0)::(res,listOf us.toArray 0)::(D,rl as n7)::(d,listOf vs.toArray n)::CB h7 as:=fun q hq=>
  .tail _ (.tail _ (.tail _ (.tail _ (.tail _ (.tail _ (.tail _ (.tail _ (.tail _ hq))))))))
 have keys2:∀a∈as,∃w n,h7.get? a=some (seqObj "tuple" #[.int (pairOf h7 a).1 (Ap h7 a),w] n):=fun a ha=>by
  obtain⟨w',n',e,_⟩:=keyOf a ha
  exact⟨w',n',e⟩
 have rc:=Iw (d:=d9) (T0:=T09) (t0:=t0) (y:=y9) (d2:=d29) (res:=res) (us:=us) (D:=D) (as:=as) (n7:=n7) (dd:=d) (od:=listOf vs.toArray n) rfl (Ih keys2)
 have A2:EL (fun a=>(pairOf h7 a).1) (Ap h7) as d9 D y9 d29 T09 t0 h₂:=HL (κ:=fun a=>(pairOf h7 a).1) keys2 fun q hq=>(N2 q (.tail _ (.tail _ hq))).1
 have bas:∀a∈as,base.get? a=none:=fun a ha=>(bn _ (tlIn _ (asIn a ha))).1
 have tk0:∀a∈as,Ap h7 a≠0:=fun a ha=>by obtain⟨_,_,_,e⟩:=keyOf a ha;exact tok0 _ _ e
 have tk1:∀a∈as,∀b∈as,Ap h7 a=Ap h7 b→(pairOf h7 a).1=(pairOf h7 b).1:=fun a ha b hb e=>by
  obtain⟨_,_,_,ea⟩:=keyOf a ha
  obtain⟨_,_,_,eb⟩:=keyOf b hb
  rw [e] at ea
  exact tok1 _ _ _ ea eb
 intro clo_ k m₁ h₂ tk₂ g₂ x d9 I9 y9 d29 T09 res oI t0 p us cg ck cv tgk hck hcv htk ser ts ti p_ hk G₂ ph hm hus hdone q1 q2 q3 q4 x_ x_ qk ek x_ x_ x_ N2 st2 X2 b0 bn tlIn rc A2
 refine Fn (K:=Mine.hd.heap_39 w.params) (f:=92) (od:=some (dictOf [] 0)) X2 ⟨(N2 _ mm1).1,rfl,rfl,(N2 _ mm2).1⟩ (by k_is) (by k_is) ?_
 have bx:=bn _ mm1
 have bd:=bn _ mm2
 have bI:=bn _ (.head _)
 have bT:=bn _ mm3
 have bY:=bn _ mm4
 have bd2:=bn _ mm5
 refine wpAny_mono (Q:=fun(v:Value) s'=>Ex7 fun(R a G dG:Addr) (t1 t2:Tok) (o12:Obj)=>Ku (v= .ref R) (s'.gens=s.gens) (s'.drawn=s.drawn) (s'.os=s.os) (as[p]?=some a) ((∀i c,i<p→as[i]?=some c→(pairOf h7 c).1≠(pairOf h7 a).1)) ((∀b o,h₂.get? b=some o→b≠x→b≠I9→s'.heap.get? b=some o)) (s'.heap.get? I9=some o12) (o12.cls= .type "list_iterator") (o12.data= .fields #[.ref D,.int (p+1:Nat) 0]) (s'.heap.get? x=some (gbO d9 (.int (ser+1) t1) (.int (pairOf h7 a).1 (Ap h7 a)) (.ref a) true true true I9 y9 (.int (ser+1) t1) (.int (pairOf h7 a).1 (Ap h7 a)))) (s'.heap.get? R=some (AT (.int (pairOf h7 a).1 (Ap h7 a)) (.ref G))) (s'.heap.get? G=some (grO dG (.int (ser+1) t2) x (.int (pairOf h7 a).1 (Ap h7 a)))) (s'.heap.get? dG=some (dictOf [] 0)) (h₂.get? R=none) (h₂.get? G=none) (h₂.get? dG=none))
  (E:=fun(e:Value) s'=>∃(e12:Addr),IY (e= .ref e12) (s'.gens=s.gens) (s'.drawn=s.drawn) (s'.os=s.os) (p=as.length) ((∃o,s'.heap.get? e12=some o∧o.cls= .type "StopIteration")) (Up (L'::AF ou) [x,d9,I9] h₂ s'.heap)) ?_ ?_ ?_
 ·rcases ph with⟨rfl,rfl,rfl,cI,dI⟩|⟨a,b,hpa,hb,rfl,rfl,rfl,rfl,rfl,rfl,hkk,hrun,cI,dI⟩|⟨rfl,rfl,cI,zI,dI⟩
  ·have h0:as[0]?=some (as[0]'(by exact Ar.rl ‹_› ‹_›)):=List.getElem?_eq_getElem _
   have m0:as[0]'(by exact Ar.rl ‹_› ‹_›)∈as:=List.getElem_mem _
   generalize as[0]'(by exact Ar.rl ‹_› ‹_›)=a at h0 m0
   intro clo_ a p_ h0 m0
   obtain⟨w',na,ea⟩:=A2.keys a m0
   intro clo_ w' na p_ ea
   refine GD (Ah G₂.below G₂.dicts G₂.fr) X T (show dp+1≤600 by exact Ar.up ‹_› (by rfl)) (N2 _ mm1).1 A2.pd (N2 _ (.head _)).1 ⟨oI,(N2 _ (.head _)).1,cI,dI⟩ A2.pD A2.py A2.pd2 A2.pT ea h0 bx.1 bd.1 bI.1 bY.1 bd2.1 bT.1 (bas a m0) bd.2 bd2.2 q4 fun h12 tk12 R G dG t1 t2 k12 i12 x12 R12 G12 dG12 fR fG fdG=>?_
   intro clo_ h12 tk12 R G dG t1 t2 p_ k12 i12 x12 R12 G12 dG12 fR fG fdG
   obtain⟨o12,eI12,c12,d12⟩:=i12
   exact⟨R,a,G,dG,t1,t2,o12,rfl,rfl,rfl,rfl,h0,fun i c hi=>absurd hi (Nat.not_lt_zero _),k12,eI12,c12,d12,x12,R12,G12,dG12,fR,fG,fdG⟩
  ·have ha:a∈as:=List.mem_of_getElem? hpa
   intro clo_ a b p_ hpa hb G₂ N2 bn tlIn bx hkk hrun ha
   refine G4 (Ah G₂.below G₂.dicts G₂.fr) X T (show dp+1≤700 by exact Ar.up ‹_› (by rfl)) (N2 _ mm1).1 A2.pd hkk (tk0 a ha) (tk0 b hb) (tk1 b hb a ha) bx.1 bd.1 bd.2 fun h12 tk12 R G dG t1 t2 k12 x12 R12 G12 dG12 fR fG fdG=>?_
   exact⟨R,a,G,dG,t1,t2,oI,rfl,rfl,rfl,rfl,hpa,hrun,fun b o e n1 _=>k12 b o e n1,k12 _ _ (N2 _ (.head _)).1 (AS (N2 _ (.head _)).1 (N2 _ mm1).1 (by rw [cI];simp)),cI,dI,x12,R12,G12,dG12,fR,fG,fdG⟩
  ·intro clo_ zI p_ dI
   refine IF (as:=as) (D:=D) (k:=0) (Ah G₂.below G₂.dicts G₂.fr) X T (show dp+1≤600 by exact Ar.up ‹_› (by rfl)) (N2 _ mm1).1 A2.pd (N2 _ (.head _)).1 (.inr ⟨oI,zI,(N2 _ (.head _)).1,cI,dI⟩) bx.1 bd.1 bI.1 bd.2 fun h12 tk12 e12 t12 o12 z12 c12 d12 R12=>?_
   intro clo_ h12 tk12 e12 t12 o12 z12 p_ c12 d12 R12
   obtain⟨a1,a2,_⟩:=R12.tells (Ah G₂.below G₂.dicts G₂.fr)
   exact⟨e12,rfl,rfl,rfl,rfl,rfl,a1,a2⟩
 ·rintro v ⟨h12,gn,dr,tk12,os12⟩ ⟨R,a,G,dG,t1,t2,o12,rfl,rfl,rfl,rfl,hpa,hrun,k12,eI12,c12,d12,x12,R12,G12,dG12,fR,fG,fdG⟩
  have ha:a∈as:=List.mem_of_getElem? hpa
  have eI2:=(N2 _ (.head _)).1
  have ex2:=(N2 _ mm1).1
  have cI:=ph.isIt
  have F12:=BP G₂.fr [x,I9] (fun b o e hb=>k12 b o e (fun q=>hb (by rw [q];exact .head _)) fun q=>hb (by rw [q];exact .tail _ (.head _))) (by
   intro q hq
   k_extra "01"
   k_extra "051"
   ·exact⟨(N2 _ mm1).2.2,(N2 _ mm1).2.1⟩
   ·exact⟨(N2 _ (.head _)).2.2,(N2 _ (.head _)).2.1⟩)
  have N12:News g₂ L' h12 ((R,AT (.int (pairOf h7 a).1 (Ap h7 a)) (.ref G))::(G,grO dG (.int (ser+1) t2) x (.int (pairOf h7 a).1 (Ap h7 a)))::(dG,dictOf [] 0)::(I9,o12)::(x,gbO d9 (.int (ser+1) t1) (.int (pairOf h7 a).1 (Ap h7 a)) (.ref a) true true true I9 y9 (.int (ser+1) t1) (.int (pairOf h7 a).1 (Ap h7 a)))::(d9,dictOf [] 0)::(T09,{cls:=.type "tuple",data:=.seq #[.int 0 t0]})::(y9,BH d29 T09)::(d29,dictOf [] 0)::(res,listOf us.toArray 0)::(D,rl as n7)::(d,listOf vs.toArray n)::CB h7 as):=It G₂.fr N2 rfl cI rc k12 eI12 x12 R12 G12 dG12 fR fG fdG
  have h2t:∀q∈CZ d9 T09 t0 y9 d29 res us D as n7 d (listOf vs.toArray n) (CB h7 as),h₂.get? q.1=some q.2:=fun q hq=>(N2 q (.tail _ (.tail _ hq))).1
  have X12:(Mine.hd.heap_39 w.params).In g₂:=X.keeps G₂.below.stays
  have P12:Top Mine.hd.view_39 loose mz mg mb g₂:=T.keeps G₂.below.stays
  have B12:=G₂.below
  have D12:=G₂.dicts
  have F13:=hm.fr F12
  have T12:=G₂.turn
  clear N2 G₂ F12 hm
  k_extra "01l"
  k_extra "04Y"
  intro clo_ h12 tk12 R a G dG t1 t2 o12 p_ hpa hrun c12 d12 fR fG fdG k12 eI12 x12 R12 G12 dG12 ha N12 F13
  refine H3 x12 rfl ?_
  k_steps
  rename Fr _ _ _ _=>F14
  rename News _ _ _ _=>N14
  intro clo_ tk
  k_extra "03"
  have notFs:∀{b:Addr},b≠L'∧g₂.get? b=none→b∉L'::AF ou:=fun{b} e m=>by
   rcases List.mem_cons.mp m with m|m
   ·exact e.1 m
   ·obtain⟨o,_,_,e',_⟩:=D12 _ m
    rw [e.2] at e';cases e'
  have V14:∀sc,Je base (envOf (Str.ofString "_rank") sc L' 250 (Value.ref 249)::ou) as x d9 I9 y9 d29 T09 G dG:=fun sc=>by
   have nG:=(N14 _ mm1).2
   have ndG:=(N14 _ mm2).2
   refine⟨bx.1,bd.1,bI.1,bY.1,bd2.1,bT.1,b0 nG.2,b0 ndG.2,bas,bd.2,bd2.2,notFs ndG,q4,fun e=>?_,fun e=>?_⟩
   ·rw [e,A2.pd] at fdG;cases fdG
   ·rw [e,A2.pd2] at fdG;cases fdG
  refine PY (Ah B12 D12 F14) X T (show dp+1≤500 by exact Ar.up ‹_› (by rfl)) (V14 _) (HL (κ:=fun a=>(pairOf h7 a).1) keys2 fun q hq=>(N14 q (.tail _ (.tail _ (.tail _ (.tail _ (.tail _ hq)))))).1) (N14 _ mm1).1 (N14 _ mm2).1 (N14 _ mm4).1 ⟨o12,(N14 _ mm3).1,c12,d12⟩ hpa (by exact Ar.upEL ‹_› ‹_› (by rfl)) tk0 tk1 fun h15 tk15 DD c15 q hpq hql hrun2 hnext E15 U15 eDD fDD=>?_
  k_extra "01r"
  have before:=Hr (κ:=fun a=>(pairOf h7 a).1) sorted hpa hpq hrun2 hnext
  intro clo_ h15 tk15 DD c15 q p_ hpq hql hrun2 hnext E15 U15 eDD fDD hglen before
  obtain⟨oI5,ck5,cv5,hck5,hcv5,eI5,ex5,ph5⟩:Ex5 fun oI5 ck5 cv5 hck5 hcv5=>Ea (h15.get? I9=some oI5) (h15.get? x=some (gbO d9 (.int (ser+1) t1) ck5 cv5 hck5 hcv5 true I9 y9 (.int (ser+1) t1) (.int (pairOf h7 a).1 (Ap h7 a)))) (FP (fun a=>(pairOf h7 a).1) (Ap h7) as D q oI5 ck5 cv5 (.int (pairOf h7 a).1 (Ap h7 a)) hck5 hcv5 true):=by
   rcases E15 with⟨a5,hq5,ex5,i5⟩|⟨hq5,ex5,i5⟩
   ·obtain⟨oI5,eI5,cI5,dI5⟩:=i5
    exact⟨oI5,_,_,_,_,eI5,ex5,.inr (.inl ⟨a5,a,hq5,ha,rfl,rfl,rfl,rfl,rfl,rfl,(hnext a5 hq5).symm,fun i c hi hc=>before i c a5 hi hc hq5,cI5,dI5⟩)⟩
   ·obtain⟨oI5,z5,eI5,cI5,dI5⟩:=i5
    exact⟨oI5,_,_,_,_,eI5,ex5,.inr (.inr ⟨hq5,rfl,cI5,z5,dI5⟩)⟩
  intro clo_ oI5 ck5 cv5 hck5 hcv5 p_ eI5 ex5 ph5
  obtain⟨g5,G5⟩:=(Gnd.mk T12 F14 N14 B12 D12).after U15 (by
   intro q hq
   k_extra "01"
   k_extra "04W"
   ·exact⟨(N14 _ mm1).2.2,(N14 _ mm1).2.1⟩
   ·exact⟨(N14 _ mm2).2.2,(N14 _ mm2).2.1⟩
   ·exact⟨(N14 _ mm4).2.2,(N14 _ mm4).2.1⟩
   ·exact⟨(N14 _ mm3).2.2,(N14 _ mm3).2.1⟩)
   ((DD,rl ((as.drop p).take (q-p)) c15)::(I9,oI5)::(x,gbO d9 (.int (ser+1) t1) ck5 cv5 hck5 hcv5 true I9 y9 (.int (ser+1) t1) (.int (pairOf h7 a).1 (Ap h7 a)))::(d9,dictOf [] 0)::(T09,{cls:=.type "tuple",data:=.seq #[.int 0 t0]})::(y9,BH d29 T09)::(d29,dictOf [] 0)::(res,listOf us.toArray 0)::(D,rl as n7)::(d,listOf vs.toArray n)::CB h7 as) (Ir F14 N14 rfl c12 rfl rc h2t fdG eDD fDD eI5 ex5)
  have F15:=G5.fr
  have N15:=G5.news
  have B15:=G5.below
  have D15:=G5.dicts
  have T15:=G5.turn
  have X15:(Mine.hd.heap_39 w.params).In g5:=X.keeps B15.stays
  have P15:Top Mine.hd.view_39 loose mz mg mb g5:=T.keeps B15.stays
  have nDD:DD≠res:=fun e=>by
   have:=(N14 _ mm9).1
   rw [←e,fDD] at this;cases this
  clear G5 F14 N14 B12 D12 T12 X12 P12 V14
  clear A2 bas bx bd bI bT bY bd2 h2t
  intro clo_ g5 p_ F15 N15 B15 D15 T15 X15 P15
  k_steps
  rename Fr _ _ _ _=>F16
  rename News _ _ _ _=>N16
  intro clo_ tk p_ F16
  k_extra "03"
  have cn:=Gy (κ:=fun a=>(pairOf h7 a).1) sorted hpa hpq hql hrun hrun2 hnext
  have hr:=Hq (κ:=fun a=>(pairOf h7 a).1) hst hal h64 hpq hql cn
  refine HX F16 ?_
  k_steps
  rename Fr _ _ _ _=>F17
  rename News _ _ _ _=>N17
  k_extra "03"
  refine Ad F17 N17 ⟨_,(N17 _ (.head _)).1,rfl,c15,rfl⟩ fun I2 h18 F18 N18 l18=>?_
  intro clo_ I2 h18 p_ F18 N18 l18
  refine⟨fun k m nw=>Ex5 fun(i:Nat) (us':List Value) (oJ:Obj) (tz tr:Tok)=>IY (k+i=q-p) (nw=(I2,oJ)::(DD,rl ((as.drop p).take (q-p)) c15)::(I9,oI5)::(x,gbO d9 (.int (ser+1) t1) ck5 cv5 hck5 hcv5 true I9 y9 (.int (ser+1) t1) (.int (pairOf h7 a).1 (Ap h7 a)))::CZ d9 T09 t0 y9 d29 res us' D as n7 d (listOf vs.toArray n) (CB h7 as)) (oJ.cls= .type "list_iterator") (oJ.data= .fields #[.ref DD,.int (i:Nat) 0]) (Has m [(Str.ofString "result",.ref res),(Str.ofString "i",.int (st-1+p) ti),(Str.ofString "size",.int ((as.drop p).take (q-p)).length tz),(Str.ofString "rank",.float (hf (rk2 st (as.countP fun c=>decide ((pairOf h7 c).1<(pairOf h7 a).1)) (as.countP fun c=>decide ((pairOf h7 c).1=(pairOf h7 a).1)))) tr)]) (us'.length=as.length) (BB (pairOf h7) st as us' (p+i)),q-p,_,_,F18,N18,?_,?_⟩
  ·exact⟨0,us,_,_,_,rfl,rfl,rfl,rfl,⟨rfl,rfl,rfl,congrArg (fun f=>some (Value.float f _)) hr,trivial⟩,hus,hdone⟩
  clear F17 N17 F18 N18
  rintro k1 m1 nw1 h21 tk21 F21 N21 ⟨i,us',oJ,tz,tr,hki,rfl,cJ,dJ,hm1,hus',hdone'⟩
  intro clo_ k1 m1 h21 tk21 p_ F21 d_ i us' oJ tz tr p_ hki cJ dJ hm1 hus' hdone' N21
  refine Da rfl F21 N21 cJ dJ ⟨_,(N21 _ mm1).1,rfl,c15,rfl⟩ ?_ ?_ ?_
  ·intro z hz
   have hz':z.1<I2:=by
    k_extra "04Q"
    ·exact l18 _ (.head _)
    k_extra "04Q"
    ·exact l18 _ mm1
    k_extra "04Q"
    ·exact l18 _ mm2
    exact Iv (P:=(· <I2)) (fun q hq=>l18 q (.tail _ (.tail _ (.tail _ hq)))) z hz
   exact Nat.ne_of_lt hz'
  ·intro b hb h22 oJ' cJ' dJ' F22 N22
   k_extra "0R"
   k_extra "04G"
   intro clo_ b p_ hb d_ h22 oJ' p_ cJ' dJ' F22 N22
   obtain⟨hi',hb2⟩:=Jz hql hb
   have mb':b∈as:=List.mem_of_getElem? hb2
   obtain⟨tb,ub,nb,eb⟩:=pa b mb'
   have eb2:h22.get? b=some (seqObj "tuple" #[.int (pairOf h7 b).1 tb,.int (pairOf h7 b).2 ub] nb):=by
    have e2:=(N22 (b,Fq h7 b) (.tail _ (.tail _ (.tail _ (.tail _ (.tail _ (.tail _ (.tail _ (.tail _ (.tail _ (.tail _ (.tail _ (List.mem_map.mpr ⟨b,mb',rfl⟩))))))))))))).1
    refine e2.trans ?_
    show some ((h7.get? b).getD _)=_
    rw [eb];rfl
   intro clo_ tb ub nb p_ eb eb2
   refine wpAny_letOwnedTupleGo_listiter ⟨oJ',(N22 _ (.head _)).1,cJ',dJ'⟩ ?_
   have F23:=hm1.fr F22
   refine unpackN_ F23 N22 ⟨_,eb2,rfl,nb,rfl⟩ rfl rfl rfl fun h24 F24 N24=>?_
   clear F21 N21 F22 N22 F23 eb2 hm1
   intro clo_ h24 p_ F24 N24
   k_steps
   rename Fr _ _ _ _=>F25
   rename News _ _ _ _=>N25
   intro clo_ tk
   k_extra "03"
   have ps:=BZ (pm.mem_iff.mp (List.mem_map_of_mem (f:=pairOf h7) mb'))
   refine Kx (us:=us') F25 N25 (K2 N25 rfl ph5.isIt cJ' nDD q1 q2 q3) ps.1 (by rw [hus',hal];exact ps.2) (PX ps.2 h64) fun h26 F26 N26=>?_
   clear F25 N25
   intro clo_ h26 p_ F26 N26
   k_steps
   rename Fr _ _ _ _=>F27
   rename News _ _ _ _=>N27
   exact AZ.intro F27 N27 (Ld hki hi').1 ⟨i+1,_,oJ',tz,tr,(Ld hki hi').2,rfl,cJ',dJ',⟨rfl,rfl,rfl,rfl,trivial⟩,by rw [List.length_set];exact hus',Gh pm hal hus' hb2 hi' hrun2 hdone'⟩
  ·intro hb h22 F22 N22
   k_extra "0R"
   k_extra "04G"
   have hiq:=Jy hpq hql hki hb
   have F23:=hm1.fr F22
   clear F21 N21 F22 hm1
   intro clo_ h22 p_ N22 F23
   k_steps
   rename Fr _ _ _ _=>F25
   rename News _ _ _ _=>N25
   rw [hiq] at hdone'
   exact DH.intro ⟨T15,F25,fun z hz=>N25 z (.tail _ hz),B15,D15⟩ (Lb hk hpq hql).1 ⟨x,d9,I9,y9,d29,T09,res,oI5,t0,q,us',_,ck5,cv5,_,hck5,hcv5,true,ser+1,t1,_,rfl,(Lb hk hpq hql).2,rfl,ph5,⟨rfl,congrArg (fun z=>some (Value.int z _)) (rk_i hpq hql),trivial⟩,hus',hdone',q1,q2,q3,q4⟩
 ·rintro e ⟨h12,gn,dr,tk12,os12⟩ ⟨e12,rfl,rfl,rfl,rfl,rfl,⟨oe,he,hce⟩,U12⟩
  intro clo_ h12 tk12 e12 p_ U12 d_ oe p_ he hce
  refine⟨e12,oe,rfl,he,hce,?_⟩
  obtain⟨g3,G3⟩:=G₂.after U12 (by
   intro q hq
   k_extra "01"
   k_extra "053"
   ·exact⟨(N2 _ mm1).2.2,(N2 _ mm1).2.1⟩
   ·exact⟨(N2 _ mm2).2.2,(N2 _ mm2).2.1⟩
   ·exact⟨(N2 _ (.head _)).2.2,(N2 _ (.head _)).2.1⟩) [(res,listOf us.toArray 0),(d,listOf vs.toArray n)] (Iq N2 rfl ph.isIt rfl)
  have F3:=hm.fr G3.fr
  have N3:=G3.news
  have T3:=G3.turn
  clear N2 G₂ hm
  k_extra "01l"
  k_extra "04Y"
  intro clo_ g3 p_ G3 F3 N3 T3
  k_steps
  rename Fr _ _ _ _=>F4
  rename News _ _ _ _=>N4
  refine h _ _ _ _ (N4 _ (.head _)).1 (hdone.fin pm hus) ?_ ?_
  ·refine Cf fun o e=>?_
   intro clo_ o p_ e
   obtain⟨sl,e3⟩:=T3.up (keep res o e (by simp [Ne.symm q3]))
   rw [(N4 _ (.head _)).2.2] at e3;cases e3
  ·exact Cm (A₀:=AR dp un (some ou) gd) [] keep T3 F4.keep (by intro q hq;cases hq with|head=>exact⟨hd1,An SD.dicts hd1 rfl⟩|tail _ hq=>cases hq) (by intro q hq _;cases hq with|head=>exact(N4 _ mm1).1|tail _ hq=>cases hq)
end
theorem kw_W20_e:True:=by
 k_with "oW20"=>skip
 trivial
end
section
theorem kw_W21_1:True:=by
 k_with "ar"=>((fail_if_success k_extra "oW21");with_reducible first|assumption|exact Ne.symm ‹_›|exact Int.ofNat_lt.mpr ‹_›|exact Nat.zero_le _|exact Int.natCast_nonneg _|exact Ar.q54 ‹_› ‹_›|exact Ar.q202 ‹_› ‹_› ‹_›|exact Ar.q244 ‹_› ‹_› ‹_›|exact Ar.q253 ‹_› ‹_› ‹_›|exact Ar.q263 ‹_› ‹_›|exact Ar.q283 ‹_› ‹_›|exact Ar.r68 ‹_› ‹_› ‹_›)
 trivial
section
variable{w:World}{dp un:Nat}{fr:Option (List Env)}{gd:Option (List Code)}{s:Shared}{loose:List Str}{mz:ExcName→Option Value}{mg mb:Str→Option Value}{Q E:Value→Shared→Prop}{hb:Heap}
theorem kw_W21_2:True:=by
 k_with "MsubscriptTail"=>((fail_if_success k_extra "oW21");(k_here;(with_reducible show wpAny _ _ (subscriptTail _ _ (Value.ref _) (Value.int _ _)) _ _ _);(with_unfolding_all refine' Gw ?k1 ?k2 ?k3 ?k4 ?k5 ?k6 ?_ ?k7;(case k1=>k_asm);(case k2=>k_mem);(case k3=>with_reducible assumption);(case k4=>omega);(case k5=>omega);(case k6=>omega);(case k7=>with_unfolding_all rfl);k_whole)))
 trivial
theorem DP {d:Addr}{vs:List Value}{ns:List Int}{n:Nat}(kb:hb.StaysIn s.heap)(X:(Mine.hd.heap_39 w.params).In hb)(T:Top Mine.hd.view_39 loose mz mg mb hb)
  (hd:dp≤700) (hu:un≤7000) (hd1:s.heap.get? d=some (listOf vs.toArray n)) (hd0:hb.get? d=none) (hi:IntsAre vs ns) (hne:0<ns.length) (h64:ns.length<64)
  (h:∀h' tk' t,(∀b o,s.heap.get? b=some o→h'.get? b=some o)→Q (.int ((srt ns).getD ((ns.length-1)/2) 0) t) {s with heap:=h',toks:=tk'}):
  wpAny (model PR w) (AR dp un fr gd) (call (.ref 257) [.ref d]) Q E s:=by
 revert w dp un fr gd s loose mz mg mb Q E hb d vs ns n
 as_aux_lemma=>
 k_extra "03Y"
 intro kb X T hd hu hd1 hd0 hi hne h64 h
 k_extra "0D"
 k_extra "0Z"
 k_extra "04"
 k_extra "00"
 k_extra "0f"
 dsimp only
 k_extra "0g"
 k_fold
 k_steps
 all_goals
  k_extra "0G"
  k_extra "05l"
  k_extra "03R"
  have e:=Bk p6 o6
  subst e
  have sl:=AY ns
  k_extra "0x"
  k_extra "03E"
  intro clo_ tk
  refine(?_:Q _ _)
  dsimp only
  first
  |(rw [show(((srt ns).length:Int)/2).toNat=(ns.length-1)/2 by exact Ar.hlfO ‹_› ‹_›];exact h _ _ _ kd)
  |(rw [show(((srt ns).length:Int)/2-1).toNat=(ns.length-1)/2 by exact Ar.hlfE ‹_› ‹_›];exact h _ _ _ kd)
theorem Cu {d:Addr}{vs:List Value}{ns:List Int}{n:Nat}(kb:hb.StaysIn s.heap)(X:(Mine.hd.heap_39 w.params).In hb)(T:Top Mine.hd.view_39 loose mz mg mb hb)
  (hd:dp≤700) (hu:un≤7000) (hd1:s.heap.get? d=some (listOf vs.toArray n)) (hd0:hb.get? d=none) (hi:IntsAre vs ns) (hne:0<ns.length) (h64:ns.length<64)
  (h:∀h' tk' t,(∀b o,s.heap.get? b=some o→h'.get? b=some o)→Q (.int ((srt ns).getD (ns.length/2) 0) t) {s with heap:=h',toks:=tk'}):
  wpAny (model PR w) (AR dp un fr gd) (call (.ref 264) [.ref d]) Q E s:=by
 k_extra "0D"
 k_extra "0Z"
 k_extra "04"
 k_extra "00"
 k_extra "0f"
 dsimp only
 k_fold
 k_steps
 all_goals
  k_extra "0G"
  k_extra "05l"
  k_extra "03R"
  have e:=Bk p6 o6
  subst e
  have sl:=AY ns
  k_extra "0x"
  k_extra "03E"
  refine(?_:Q _ _)
  dsimp only
  rw [show(((srt ns).length:Int)/2).toNat=ns.length/2 by exact Ar.hlf ‹_›]
  exact h _ _ _ kd
end
theorem kw_W21_e:True:=by
 k_with "oW21"=>skip
 trivial
end
section
theorem kw_W22_1:True:=by
 k_with "ar"=>((fail_if_success k_extra "oW22");with_reducible first|assumption|exact Ne.symm ‹_›|exact Int.ofNat_lt.mpr ‹_›|exact Nat.zero_le _|exact Int.natCast_nonneg _|exact Ar.q110 ‹_›|exact Ar.q119 ‹_›|exact Ar.q190 ‹_›|exact Ar.q193 ‹_›|exact Ar.q200 ‹_›|exact Ar.q207 ‹_›|exact Ar.q223 ‹_›|exact Ar.q227 ‹_›|k_extra "arN")
 trivial
section
variable{w:World}{dp un:Nat}{gd:Option (List Code)}{s:Shared}{loose:List Str}{mz:ExcName→Option Value}{mg mb:Str→Option Value}{Q E:Value→Shared→Prop}{base:Heap}{ou:List Env}
theorem kw_W22_2:True:=by
 k_with "Mexec For Name List cons nil"=>((fail_if_success k_extra "oW22");refine Stop.at ?_)
 k_with "MpyIter ref"=>((fail_if_success k_extra "oW22");refine Stop.at ?_)
 trivial
theorem E0 {d:Addr}{n:Nat}(SD:Ae base ou s.heap)(X:(Mine.hd.heap_39 w.params).In base)(T:Top Mine.hd.view_39 loose mz mg mb base)
  (hd:dp≤400) (hu:un≤7000) (hd1:s.heap.get? d=some (listOf #[] n)) (hd0:base.get? d=none)
  (h:∀h' tk' R t c,h'.get? R=some (listOf #[.int 0 t] c)→s.heap.get? R=none→Up (AF ou) [] s.heap h'→Q (.ref R) {s with heap:=h',toks:=tk'}):
  wpAny (model PR w) (AR dp un (some ou) gd) (call (.ref 384) [.ref d]) Q E s:=by
 revert w dp un gd s loose mz mg mb Q E base ou d n
 as_aux_lemma=>
 intro pick_ w dp un gd s loose mz mg mb Q E base ou d n
 intro SD X T hd hu hd1 hd0 h
 k_extra "0D"
 refine' Am (binds:= [(Str.ofString "pairs",.ref d)]) [(d,listOf #[] n)] SD X T ?m ?k6 ?k7 ?k8 ?k9 ?kB ?_ ?c2 ?c3 ?c4 ?c5
 k_extra "0k"
 k_extra "00"
 k_extra "0v"
 dsimp only
 k_extra "0h"
 k_fold
 k_steps
 intro clo_ tk p_ x_
 k_extra "03"
 k_extra "0e"
 k_extra "0a"
 k_extra "037"
 k_steps
 k_extra "03"
 k_extra "0G"
 k_extra "0x"
 refine Ad F6 N6 ⟨_,(N6 _ (.head _)).1,rfl,0,rfl⟩ fun I2 h7 F7 N7 l7=>?_
 intro clo_ I2 h7 p_ F7 N7 l7
 refine⟨(fun k m nw=>∃(i:Nat) (oI:Obj) (tz:Tok),k+i=3∧nw= [(I2,oI),(_,rl [257,264,272] 0),(d,listOf #[] n)]∧oI.cls= .type "list_iterator"∧oI.data= .fields #[.ref _,.int (i:Nat) 0]∧Has m [(Str.ofString "pairs",.ref d),(Str.ofString "refused",.int i tz)]),3,_,_,g,⟨KtsTurn.refl,F7,N7,B',Dt⟩,⟨0,_,_,rfl,rfl,rfl,rfl,⟨rfl,rfl,trivial⟩⟩,?_⟩
 clear F6 N6 F7 N7
 rintro k m₁ nw₁ h₂ tk₂ g₂ G₂ ⟨i,oI,tz,hk,rfl,cI,dI,hm⟩
 have F2:=hm.fr G₂.fr
 have N2:=G₂.news
 have B2:=G₂.below
 have D2:=G₂.dicts
 have T2:=G₂.turn
 have X2:(Mine.hd.heap_39 w.params).In g₂:=X.keeps B2.stays
 have P2:Top Mine.hd.view_39 loose mz mg mb g₂:=T.keeps B2.stays
 clear G₂ hm X' T' B' Dt
 intro clo_ k m₁ h₂ tk₂ g₂ i oI tz p_ hk cI dI F2 N2 B2 D2 T2 X2 P2
 refine Da rfl F2 N2 cI dI ⟨_,(N2 _ mm1).1,rfl,0,rfl⟩ ?_ ?_ ?_
 ·exact fun z hz=>Nat.ne_of_lt (l7 z hz)
 ·intro a ha h3 oI' cI' dI' F3 N3
  k_extra "01l"
  k_extra "04Y"
  have hi:(i=0∧a=257)∨(i=1∧a=264)∨(i=2∧a=272):=by
   exact Cz (P:=fun i a=>(i=0∧a=257)∨(i=1∧a=264)∨(i=2∧a=272)) (.inl ⟨rfl,rfl⟩) (Cz (.inr (.inl ⟨rfl,rfl⟩)) (Cz (.inr (.inr ⟨rfl,rfl⟩)) IH)) i a ha
  clear F2 N2
  intro clo_ a p_ ha d_ h3 oI' p_ cI' dI' F3 N3 hi
  rcases hi with⟨rfl,rfl⟩|⟨rfl,rfl⟩|⟨rfl,rfl⟩
  all_goals k_steps
  intro clo_ tk p_ x_
  all_goals first
   |(exfalso;omega)
   |(rename Fr _ _ _ _=>F9
     k_extra "01p"
     rename Below (AR dp un (some ou) gd) base ou _=>K9
     rename KtsDicts _ _=>D9
     rename KtsTurn _ g _=>T9
     exact DH.intro ⟨T9,F9,fun z hz=>N9 z (.tail _ hz),K9,D9⟩ (n':=k-1) (by(first|exact Ar.q190 hk|exact Ar.q193 hk|exact Ar.q200 hk)) ⟨_+1,oI',_,by omega,rfl,cI',dI',⟨rfl,rfl,trivial⟩⟩)
 ·intro hi h3 F3 N3
  k_extra "01l"
  k_extra "04Y"
  k_extra "01m"
  obtain rfl:i=3:=by
   have:=List.getElem?_eq_none_iff.mp hi
   simp only [List.length_cons,List.length_nil] at this
   exact Ar.ce ‹_› ‹_›
  clear F2 N2
  k_steps
  k_extra "01X"
  k_extra "01p"
  refine h _ _ _ _ _ (N9 _ (.head _)).1 (BF keep T2 (N9 _ (.head _)).2.2 (AL (show @LT.lt Nat _ d _ by exact Ar.q57 ‹_› ‹_›))) (Cm (A₀:=AR dp un (some ou) gd) [] keep T2 F9.keep (AL ⟨hd1,An SD.dicts hd1 rfl⟩) (Dk (AL (N9 _ mm2).1)))
end
theorem kw_W22_e:True:=by
 k_with "oW22"=>skip
 trivial
end
section
theorem kw_W23_1:True:=by
 k_with "ar"=>((fail_if_success k_extra "oW23");with_reducible first|assumption|exact Ne.symm ‹_›|exact Int.ofNat_lt.mpr ‹_›|exact Nat.zero_le _|exact Int.natCast_nonneg _|exact Ar.q53 ‹_› ‹_› ‹_›|exact Ar.q59 ‹_›|exact Ar.q82 ‹_›|exact Ar.q89 ‹_›|exact Ar.q100 ‹_›|exact Ar.q57 ‹_› ‹_›|exact Ar.q201 ‹_›|exact Ar.q213 ‹_› ‹_›|exact Ar.q221 ‹_› ‹_› ‹_› ‹_›|exact Ar.q228 ‹_› ‹_›|exact Ar.q235 ‹_› ‹_› ‹_›|exact Ar.q236 ‹_› ‹_›|exact Ar.q243 ‹_› ‹_› ‹_›|exact Ar.q247 ‹_› ‹_› ‹_›|exact Ar.q252 ‹_› ‹_› ‹_› ‹_› ‹_›|exact Ar.q251 ‹_› ‹_› ‹_›|exact Ar.q257 ‹_› ‹_› ‹_› ‹_›|exact Ar.q267 ‹_› ‹_› ‹_› ‹_›|exact Ar.q54 ‹_› ‹_›|exact Ar.r41 ‹_›|exact Ar.r42 ‹_›|exact Ar.r43 ‹_›|exact Ar.r44 ‹_›|exact Ar.r57 ‹_› ‹_›|exact Ar.r197 ‹_›|exact Ar.r139 ‹_›|exact Ar.r148 ‹_›|exact Ar.r137 ‹_›|exact Ar.r74 ‹_› ‹_›|exact Ar.r75 ‹_› ‹_›|exact Ar.r77 ‹_› ‹_› ‹_›|exact Ar.r84 ‹_› ‹_›|exact Ar.r87 ‹_› ‹_› ‹_›|exact Ar.r96 ‹_› ‹_› ‹_›|exact Ar.r48 ‹_› ‹_› ‹_›|exact Ar.r59 ‹_› ‹_› ‹_›|exact Ar.r67 ‹_› ‹_› ‹_› ‹_›|exact Ar.r120 ‹_›|exact Ar.r172 ‹_›|exact Ar.r195 ‹_›|exact Ar.r210 ‹_›|exact Ar.r251 ‹_›|exact Ar.r252 ‹_› ‹_›|exact Ar.r264 ‹_›|exact Ar.r265 ‹_›|exact Ar.r271 ‹_› ‹_›|exact Ar.r326 ‹_›|k_extra "arN")
 trivial
section
variable{w:World}{dp un:Nat}{fr:Option (List Env)}{gd:Option (List Code)}{s:Shared}{loose:List Str}{mz:ExcName→Option Value}{mg mb:Str→Option Value}{Q E:Value→Shared→Prop}{hb:Heap}
theorem kw_W23_2:True:=by
 k_with "MbinaryOp Mult int int"=>((fail_if_success k_extra "oW23");(with_reducible refine PyProof.Rows.mul_int ?_ (by first|mul_fits|exact IntMulOk.of_left (Il (by with_reducible assumption) _))))
 k_with "MbinaryOp Div int int"=>((fail_if_success k_extra "oW23");refine Stop.at ?_)
 k_with "MbinaryOp FloorDiv int int"=>((fail_if_success k_extra "oW23");refine Stop.at ?_)
 k_with "MpyIter ref"=>((fail_if_success k_extra "oW23");refine Stop.at ?_)
 trivial
theorem Fi {d:Addr}{vs:List Value}{ns:List Int}{n:Nat}{tn:Tok}(kb:hb.StaysIn s.heap)(X:(Mine.hd.heap_39 w.params).In hb)(T:Top Mine.hd.view_39 loose mz mg mb hb)
  (hd:dp≤700) (hu:un≤7000) (hd1:s.heap.get? d=some (listOf vs.toArray n)) (hd0:hb.get? d=none) (hi:IntsAre vs ns) (hne:2≤ns.length) (hev:ns.length % 2=0) (h64:ns.length<64) (hbd:∀x∈ns,x.natAbs<2^50)
  (h:∀h' tk' R us c,h'.get? R=some (listOf us.toArray c)→AU us [(srt ns).getD (ns.length/2-1) 0+(srt ns).getD (ns.length/2) 0]→s.heap.get? R=none→(∀b o,s.heap.get? b=some o→h'.get? b=some o)→Q (.ref R) {s with heap:=h',toks:=tk'}):
  wpAny (model PR w) (AR dp un fr gd) (call (.ref 272) [.ref d] [(Str.ofString "n",.int 2 tn)]) Q E s:=by
 revert w dp un fr gd s loose mz mg mb Q E hb d vs ns n tn
 as_aux_lemma=>
 k_extra "0U"
 intro kb X T hd hu hd1 hd0 hi hne hev h64 hbd h
 k_extra "0D"
 refine' Ag (binds:= [(Str.ofString "data",.ref d),(Str.ofString "n",.int 2 tn),(Str.ofString "method",.str (Str.ofString "exclusive") 563)]) [(d,listOf vs.toArray n)] kb X T ?m ?k6 ?k7 ?k8 ?k9 ?kB ?_ ?c2 ?c3 ?c4 ?c5
 k_extra "04"
 k_extra "08"
 k_extra "01B"
 k_extra "0f"
 dsimp only
 k_extra "0g"
 k_fold
 k_steps
 k_extra "0e"
 k_extra "0a"
 k_extra "05l"
 k_extra "03R"
 have e:=Bk p6 o6
 subst e
 have sl:=AY ns
 intro clo_ tk p_ x_ x_
 k_extra "03"
 refine Bf F5 N5 (by assumption) (by decide) (by decide) (by decide) fun I h6 F6 N6 l6=>?_
 intro clo_ I h6 p_ F6 N6 l6
 obtain⟨m6,l,D,v6,c6,tm,tl,F7,N7,hm7,i7,l7⟩:Ex7 fun m l D v c tm tl=>C6 (Fr g L' h6 m) (News g L' h6 [(I,AJ 1 (2-1) 1),(l,listOf #[] 0),(D,listOf v.toArray c),(d,listOf vs.toArray n)]) (Has m [(Str.ofString "data",.ref D),(Str.ofString "n",.int (2) tn),(Str.ofString "ld",.int ns.length tl),(Str.ofString "result",.ref l),(Str.ofString "m",.int (ns.length+1) tm)]) (IntsAre v (srt ns)) ((@LT.lt Nat _ l I∧@LT.lt Nat _ D I∧@LT.lt Nat _ d I∧@LT.lt Nat _ D l∧@LT.lt Nat _ d l)):=by
  k_extra "0i"
 clear F6 N6 F5 N5
 intro clo_ m6 l D v6 c6 tm tl p_ F7 N7 hm7 i7 l7
 refine⟨fun k m nw=>Ex3 fun(i:Nat) (us:List Value) (c:Nat)=>C6 (k+i=1) (nw= [(I,AJ (1+i) (1-i) 1),(l,listOf us.toArray c),(D,listOf v6.toArray c6),(d,listOf vs.toArray n)]) (us.length=i) ((∀j,j<i→∃t,us[j]?=some (.float (hf ((srt ns).getD (ns.length/2-1) 0+(srt ns).getD (ns.length/2) 0)) t))) (Has m [(Str.ofString "data",.ref D),(Str.ofString "n",.int 2 tn),(Str.ofString "ld",.int ns.length tl),(Str.ofString "result",.ref l),(Str.ofString "m",.int (ns.length+1) tm)]),1,_,_,F7,N7,?_,?_⟩
 ·exact⟨0,[],0,rfl,rfl,rfl,fun j hj=>absurd hj (Nat.not_lt_zero _),hm7⟩
 clear F7 N7 hm7
 k_extra "038"
 k_extra "03i"
 refine BK rfl F₂ N₂ ?_ ?_ ?_
 ·intro p hp
  k_extra "02C"
  k_extra "05v"
  k_extra "045"
 ·k_extra "05w"
  k_extra "0R"
  k_extra "04G"
  k_extra "01m"
  obtain rfl:i=0:=by exact Nat.lt_one_iff.mp (Ar.zlt hlt)
  have F4:=hm.fr F3
  k_extra "05x"
  k_steps
  intro clo_ tk
  k_extra "03"
  refine JW (by decide) ?_
  rw [show((1+((0:Nat):Int))*((ns.length:Int)+1))/2=((ns.length/2:Nat):Int) by exact(congrArg (fun z=>z/2) (Int.one_mul _)).trans (congrArg Int.ofNat (Ar.evh hev))]
  k_steps
  k_extra "03"
  refine JZ (x:=(srt ns).getD (ns.length/2-1) 0+(srt ns).getD (ns.length/2) 0) rfl ?_ (FZ hbd _ _) ?_
  ·rw [Gm (by exact Ar.q302 hev)]
   congr 3<;>exact Ar.tn1
  k_steps
  k_extra "01X"
  k_extra "01p"
  have hu0:us= []:=List.eq_nil_of_length_eq_zero hus
  subst hu0
  exact AZ.intro F9 N9 (n':=0) (by exact Nat.lt_of_lt_of_le Nat.one_pos (Nat.le_of_eq hk.symm)) ⟨1,[.float (hf ((srt ns).getD (ns.length/2-1) 0+(srt ns).getD (ns.length/2) 0)) _],_,rfl,rfl,rfl,fun j hj=>⟨_,J0 hj⟩,⟨rfl,rfl,rfl,rfl,rfl,trivial⟩⟩
 ·k_extra "05w"
  k_extra "0R"
  k_extra "04G"
  have F4:=hm.fr F3
  k_extra "05x"
  intro clo_ h3 p_ N3 F4
  k_steps
  k_extra "01X"
  obtain rfl:i=1:=by exact Ar.zce (n:=1) hk hlt
  refine(?_:Q _ _)
  dsimp only
  refine h _ _ _ us c (N3 _ (.head _)).1 ⟨hus,fun j k e=>?_⟩ (BF (fs:= []) keep KtsTurn.refl (N3 _ (.head _)).2.2 (AL l7.2.2.2.2)) (Ax keep F9 (AL hd1) (AL (N3 _ mm2).1))
  intro clo_ j k p_ e
  exact Cz (P:=fun j k=>∃t,us[j]?=some (Value.float (hf k) t)) (hall 0 (by decide)) IH j k e
theorem Fh {d:Addr}{vs:List Value}{ns:List Int}{n:Nat}{tn:Tok}(kb:hb.StaysIn s.heap)(X:(Mine.hd.heap_39 w.params).In hb)(T:Top Mine.hd.view_39 loose mz mg mb hb)
  (hd:dp≤700) (hu:un≤7000) (hd1:s.heap.get? d=some (listOf vs.toArray n)) (hd0:hb.get? d=none) (hi:IntsAre vs ns) (hne:2≤ns.length) (h64:ns.length<64) (hbd:∀x∈ns,x.natAbs<2^50)
  (h:∀h' tk' R us c,h'.get? R=some (listOf us.toArray c)→AU us ((srt ns).map fun x=>2*x)→s.heap.get? R=none→(∀b o,s.heap.get? b=some o→h'.get? b=some o)→Q (.ref R) {s with heap:=h',toks:=tk'}):
  wpAny (model PR w) (AR dp un fr gd) (call (.ref 272) [.ref d] [(Str.ofString "n",.int (ns.length+1) tn)]) Q E s:=by
 revert w dp un fr gd s loose mz mg mb Q E hb d vs ns n tn
 as_aux_lemma=>
 k_extra "0U"
 intro kb X T hd hu hd1 hd0 hi hne h64 hbd h
 k_extra "0D"
 refine' Ag (binds:= [(Str.ofString "data",.ref d),(Str.ofString "n",.int (ns.length+1) tn),(Str.ofString "method",.str (Str.ofString "exclusive") 563)]) [(d,listOf vs.toArray n)] kb X T ?m ?k6 ?k7 ?k8 ?k9 ?kB ?_ ?c2 ?c3 ?c4 ?c5
 k_extra "04"
 k_extra "08"
 k_extra "01B"
 k_extra "0f"
 dsimp only
 k_extra "0g"
 k_fold
 k_steps
 k_extra "0e"
 k_extra "0a"
 k_extra "05l"
 k_extra "03R"
 have e:=Bk p6 o6
 subst e
 have sl:=AY ns
 intro clo_ tk p_ x_ x_
 k_extra "03"
 refine Bf F5 N5 (by assumption) (by decide) (by exact Ar.r324) (by exact Ar.zup (x:=1001) (Nat.succ_le_of_lt h64) rfl|>Int.le_of_lt_add_one) fun I h6 F6 N6 l6=>?_
 intro clo_ I h6 p_ F6 N6 l6
 obtain⟨m6,l,D,v6,c6,tm,tl,F7,N7,hm7,i7,l7⟩:Ex7 fun m l D v c tm tl=>C6 (Fr g L' h6 m) (News g L' h6 [(I,AJ 1 (ns.length+1-1) 1),(l,listOf #[] 0),(D,listOf v.toArray c),(d,listOf vs.toArray n)]) (Has m [(Str.ofString "data",.ref D),(Str.ofString "n",.int (ns.length+1) tn),(Str.ofString "ld",.int ns.length tl),(Str.ofString "result",.ref l),(Str.ofString "m",.int (ns.length+1) tm)]) (IntsAre v (srt ns)) ((@LT.lt Nat _ l I∧@LT.lt Nat _ D I∧@LT.lt Nat _ d I∧@LT.lt Nat _ D l∧@LT.lt Nat _ d l)):=by
  k_extra "0i"
 clear F6 N6 F5 N5
 intro clo_ m6 l D v6 c6 tm tl p_ F7 N7 hm7 i7 l7
 refine⟨fun k m nw=>Ex3 fun(i:Nat) (us:List Value) (c:Nat)=>C6 (k+i=ns.length) (nw= [(I,AJ (1+i) (ns.length-i) 1),(l,listOf us.toArray c),(D,listOf v6.toArray c6),(d,listOf vs.toArray n)]) (us.length=i) ((∀j,j<i→∃t,us[j]?=some (.float (hf (2*(srt ns).getD j 0)) t))) (Has m [(Str.ofString "data",.ref D),(Str.ofString "n",.int (ns.length+1) tn),(Str.ofString "ld",.int ns.length tl),(Str.ofString "result",.ref l),(Str.ofString "m",.int (ns.length+1) tm)]),ns.length,_,_,F7,N7,?_,?_⟩
 ·exact⟨0,[],0,rfl,by rw [show(ns.length:Int)+1-1=ns.length-(0:Nat) by omega];rfl,rfl,fun j hj=>absurd hj (Nat.not_lt_zero _),hm7⟩
 clear F7 N7 hm7
 k_extra "038"
 k_extra "03i"
 refine BK rfl F₂ N₂ ?_ ?_ ?_
 ·intro p hp
  k_extra "02C"
  k_extra "05v"
  k_extra "045"
 ·k_extra "05w"
  k_extra "0R"
  k_extra "04G"
  have F4:=hm.fr F3
  k_extra "05x"
  intro clo_ h3 p_ N3 F4
  k_steps
  intro clo_ tk
  k_extra "03"
  refine JW (by exact⟨Ar.z1a,Ar.zup (Nat.succ_le_of_lt h64) rfl⟩) ?_
  rw [Int.mul_ediv_cancel _ (by omega)]
  k_steps
  ·k_extra "03"
   have hδ:(1+(i:Int))*((ns.length:Int)+1)-((ns.length:Int)-1)*((ns.length:Int)+1)=(ns.length:Int)+1:=Gl (by exact Ar.r103 hk hlt ‹_›)
   refine GI (x:=(srt ns).getD i 0) rfl ((Gn hδ).trans (by rw [show((ns.length:Int)-1).toNat=i by exact Ar.r23 hne hk hlt ‹_›])) (Im hbd _) (by exact Ar.z1a) (by exact Ar.q31 h64) ?_
   clear hδ
   k_steps
   k_extra "01X"
   k_extra "01p"
   rw [List.push_toArray] at N9
   k_extra "0j"
  ·k_extra "03"
   refine GI (x:=(srt ns).getD i 0) rfl ((Gk (Int.sub_self _)).trans (by rw [show(1+(i:Int)-1).toNat=i by exact congrArg Int.toNat Ar.oc])) (Im hbd _) (by exact Ar.z1a) (by exact Ar.q31 h64) ?_
   k_steps
   k_extra "01X"
   k_extra "01p"
   rw [List.push_toArray] at N9
   k_extra "0j"
 ·k_extra "05w"
  k_extra "0R"
  k_extra "04G"
  have F4:=hm.fr F3
  k_extra "05x"
  intro clo_ h3 p_ N3 F4
  k_steps
  k_extra "01X"
  have hin:i=ns.length:=by exact Ar.zce ‹_› ‹_›
  refine(?_:Q _ _)
  dsimp only
  refine h _ _ _ us c (N3 _ (.head _)).1 (Ei sl (hus.trans hin) fun j hj=>hall j (by exact Ar.rl ‹_› ‹_›)) (BF (fs:= []) keep KtsTurn.refl (N3 _ (.head _)).2.2 (AL l7.2.2.2.2)) (Ax keep F9 (AL hd1) (AL (N3 _ mm2).1))
theorem kw_W23_e:True:=by
 k_with "oW23"=>skip
 trivial
theorem kw_W24_1:True:=by
 k_with "Mexec Try cons cons cons nil"=>((fail_if_success k_extra "oW24");refine wpAny_Try_except ?_)
 k_with "Mcall builtin:iter"=>((fail_if_success k_extra "oW24");(k_here;(with_unfolding_all refine' Db ?k1 ?k2 ?k3 ?_;(case k1=>k_asm);(case k2=>k_asm);(case k3=>exact News.isList (by k_asm) (by k_mem));k_whole);intro q_I' q_h' q_F' q_N' q_l1;(try k_lt q_l1);(try k_sweep)))
 k_with "Mcall type:object"=>((fail_if_success k_extra "oW24");refine Stop.at ?_)
 k_with "Mcall builtin:max"=>((fail_if_success k_extra "oW24");refine Stop.at ?_)
 k_with "Mcall builtin:max cons"=>((fail_if_success k_extra "oW24");refine Stop.at ?_)
 k_with "McompareOp Is int ref"=>((fail_if_success k_extra "oW24");refine Gu ?_)
 trivial
theorem JE {d:Addr}{vs:List Value}{ns:List Int}{n:Nat}{tn:Tok}(kb:hb.StaysIn s.heap)(X:(Mine.hd.heap_39 w.params).In hb)(T:Top Mine.hd.view_39 loose mz mg mb hb)
  (hd:dp≤700) (hu:un≤7000) (hd1:s.heap.get? d=some (listOf vs.toArray n)) (hd0:hb.get? d=none) (hi:IntsAre vs ns) (hne:ns.length=1)
  (h:∀h' tk' R us c,h'.get? R=some (listOf us.toArray c)→IntsAre us (srt ns).reverse→s.heap.get? R=none→(∀b o,s.heap.get? b=some o→h'.get? b=some o)→Q (.ref R) {s with heap:=h',toks:=tk'}):
  wpAny (model PR w) (AR dp un fr gd) (call (.ref 313) [.int 1 tn,.ref d]) Q E s:=by
 revert w dp un fr gd s loose mz mg mb Q E hb d vs ns n tn
 as_aux_lemma=>
 k_extra "0U"
 k_extra "055"
 obtain⟨x,rfl⟩:∃x,ns= [x]:=List.length_eq_one_iff.mp hne
 intro clo_ x p_ hi hne h
 obtain⟨tx,rfl⟩:∃t,vs= [.int x t]:=by
  cases hi with
  |cons n t r=>cases r;exact⟨t,rfl⟩
 have hsr:(srt [x]).reverse= [x]:=by
  have:=Bk (ms:= [x]) (ns:= [x]) (.refl _) (by simp)
  rw [←this];rfl
 rw [hsr] at h
 intro clo_ tx p_ hd1 hi
 k_extra "0D"
 refine' C0 (binds:= [(Str.ofString "n",.int 1 tn),(Str.ofString "iterable",.ref d),(Str.ofString "key",.none)]) [(d,listOf [Value.int x tx].toArray n)] kb X T ?m ?k6 ?k7 ?k8 ?k9 ?kB ?kD ?_ ?c2 ?c3 ?c4
 k_extra "04"
 k_extra "08"
 k_extra "0b"
 k_extra "02s"
 k_extra "01P"
 k_cells Y
 k_extra "015"
 dsimp only
 try k_fold
 intro clo_ oC1 p_ dC1 N
 k_steps
 intro clo_ tk
 k_extra "03"
 k_extra "0e"
 k_extra "0a"
 refine GN F5 N5 fun O h6 F6 N6 l6=>?_
 clear F5 N5
 intro clo_ O h6 p_ F6 N6 l6
 k_steps
 k_extra "022"
 k_extra "01b"
 k_extra "03"
 show wpAny _ _ (call (.builtin "max") [.ref _] [(Str.ofString "default",.ref O),(Str.ofString "key",.none)]) _ _ _
 refine J6 rfl ⟨_,(N7 _ mm1).1,rfl,rfl⟩ ⟨_,(N7 _ mm3).1,rfl,n,rfl⟩ (Nat.ne_of_gt (by exact Ar.q178 ‹_›)) fun h8 k8=>?_
 have F8:=BP F7 [_] (fun b o e hb=>k8 b o e fun q=>hb (by rw [q];exact .head _)) (by
  intro q hq
  rw [List.mem_singleton.mp hq]
  exact⟨(N7 _ mm1).2.2,(N7 _ mm1).2.1⟩)
 have N8:News g L' h8 [(d,listOf [Value.int x tx].toArray n)]:=AL ⟨k8 _ _ (N7 _ mm3).1 (show @Ne Nat d _ from Nat.ne_of_lt (by exact Ar.q178 ‹_›)),(N7 _ mm3).2⟩
 clear F7 N7
 intro clo_ h8 p_ k8 F8 N8
 k_steps
 k_extra "01X"
 k_extra "01p"
 intro clo_ tk
 refine(?_:Q _ _)
 dsimp only
 exact h _ _ _ [.int x tx] _ (N9 _ (.head _)).1 hi (BF (fs:= []) keep KtsTurn.refl (N9 _ (.head _)).2.2 (AL (show @LT.lt Nat _ d _ by assumption))) (Ax keep F9 (AL hd1) (AL (N9 _ mm1).1))
theorem kw_W24_e:True:=by
 k_with "oW24"=>skip
 trivial
theorem kw_W25_1:True:=by
 k_with "ar"=>((fail_if_success k_extra "oW25");with_reducible first|assumption|exact Ne.symm ‹_›|exact Int.ofNat_lt.mpr ‹_›|exact Nat.zero_le _|exact Int.natCast_nonneg _|exact Ar.r188 ‹_›|exact Ar.r225 ‹_› ‹_›)
 trivial
theorem kw_W25_2:True:=by
 k_with "Mexec Try cons cons cons nil"=>((fail_if_success k_extra "oW25");refine wpAny_Try_except ?_)
 k_with "Mcall builtin:iter"=>((fail_if_success k_extra "oW25");(k_here;(with_unfolding_all refine' Db ?k1 ?k2 ?k3 ?_;(case k1=>k_asm);(case k2=>k_asm);(case k3=>exact News.isList (by k_asm) (by k_mem));k_whole);intro q_I' q_h' q_F' q_N' q_l1;(try k_lt q_l1);(try k_sweep)))
 k_with "Mcall builtin:sorted cons"=>((fail_if_success k_extra "oW25");refine Stop.at ?_)
 k_with "Mcall builtin:sorted"=>((fail_if_success k_extra "oW25");refine Stop.at ?_)
 trivial
theorem JC {d:Addr}{vs:List Value}{ns:List Int}{n:Nat}{tn:Tok}(kb:hb.StaysIn s.heap)(X:(Mine.hd.heap_39 w.params).In hb)(T:Top Mine.hd.view_39 loose mz mg mb hb)
  (hd:dp≤700) (hu:un≤7000) (hd1:s.heap.get? d=some (listOf vs.toArray n)) (hd0:hb.get? d=none) (hi:IntsAre vs ns) (hne:2≤ns.length) (h64:ns.length<64)
  (h:∀h' tk' R us c,h'.get? R=some (listOf us.toArray c)→IntsAre us (srt ns).reverse→s.heap.get? R=none→(∀b o,s.heap.get? b=some o→h'.get? b=some o)→Q (.ref R) {s with heap:=h',toks:=tk'}):
  wpAny (model PR w) (AR dp un fr gd) (call (.ref 313) [.int ns.length tn,.ref d]) Q E s:=by
 revert w dp un fr gd s loose mz mg mb Q E hb d vs ns n tn
 as_aux_lemma=>
 k_extra "0U"
 intro kb X T hd hu hd1 hd0 hi hne h64 h
 k_extra "0D"
 refine' C0 (binds:= [(Str.ofString "n",.int ns.length tn),(Str.ofString "iterable",.ref d),(Str.ofString "key",.none)]) [(d,listOf vs.toArray n)] kb X T ?m ?k6 ?k7 ?k8 ?k9 ?kB ?kD ?_ ?c2 ?c3 ?c4
 k_extra "04"
 k_extra "08"
 k_extra "0b"
 k_extra "02s"
 k_extra "01P"
 k_cells Y
 k_extra "015"
 dsimp only
 try k_fold
 intro clo_ oC1 p_ dC1 N
 k_steps
 intro clo_ tk
 k_extra "03"
 k_extra "0e"
 k_extra "0a"
 show wpAny _ _ (call (.builtin "sorted") [.ref d] [(Str.ofString "key",.none),(Str.ofString "reverse",.bool true)]) _ _ _
 refine FE F5 N5 mm1 hi h64 fun D h6 v6 c6 F6 N6 l6 i6=>?_
 clear F5 N5
 have hv6:v6.length=ns.length:=by rw [AC i6,List.length_reverse,AY]
 have hs6:(srt ns).reverse.length=ns.length:=by rw [List.length_reverse,AY]
 intro clo_ D h6 v6 c6 p_ F6 N6 l6 i6 hv6
 k_steps
 k_extra "022"
 k_extra "01b"
 rename IntsAre _ (List.take _ _)=>i7
 rw [List.take_of_length_le (by exact Nat.le_of_eq hs6)] at i7
 exact h _ _ _ _ _ (N7 _ (.head _)).1 i7 (BF (fs:= []) keep KtsTurn.refl (N7 _ (.head _)).2.2 (AL (show @LT.lt Nat _ d _ by exact Ar.r140 ‹_›))) (Ax keep F7 (AL hd1) (AL (N7 _ mm3).1))
theorem kw_W25_e:True:=by
 k_with "oW25"=>skip
 trivial
theorem kw_W26_1:True:=by
 k_with "ar"=>((fail_if_success k_extra "oW26");with_reducible first|assumption|exact Ne.symm ‹_›|exact Int.ofNat_lt.mpr ‹_›|exact Nat.zero_le _|exact Int.natCast_nonneg _|exact Ar.q209 ‹_›|exact Ar.r296 ‹_›)
 trivial
theorem kw_W26_2:True:=by
 k_with "Mexec Try cons cons cons nil"=>((fail_if_success k_extra "oW26");refine wpAny_Try_except ?_)
 k_with "Mcall builtin:iter"=>((fail_if_success k_extra "oW26");(k_here;(with_unfolding_all refine' Db ?k1 ?k2 ?k3 ?_;(case k1=>k_asm);(case k2=>k_asm);(case k3=>exact News.isList (by k_asm) (by k_mem));k_whole);intro q_I' q_h' q_F' q_N' q_l1;(try k_lt q_l1);(try k_sweep)))
 k_with "Mexec Assign cons ListComp"=>((fail_if_success k_extra "oW26");refine Stop.at ?_)
 k_with "Mcall type:zip"=>((fail_if_success k_extra "oW26");refine Stop.at ?_)
 k_with "MpyIter ref"=>((fail_if_success k_extra "oW26");refine Stop.at ?_)
 k_with "MpyNext ref"=>((fail_if_success k_extra "oW26");refine Stop.at ?_)
 k_with "Mcall builtin:list.append"=>((fail_if_success k_extra "oW26");refine Stop.at ?_)
 k_with "Mexec For Name Name cons nil"=>((fail_if_success k_extra "oW26");refine Stop.at ?_)
 k_with "Mcall builtin:list.sort"=>((fail_if_success k_extra "oW26");refine Stop.at ?_)
 k_with "Mcall builtin:list.sort cons"=>((fail_if_success k_extra "oW26");refine Stop.at ?_)
 k_with "Meval ListComp"=>((fail_if_success k_extra "oW26");refine Stop.at ?_)
 k_with "McallWith builtin:list.sort cons"=>((fail_if_success k_extra "oW26");refine GO ?_)
 trivial
theorem JD {d:Addr}{vs:List Value}{ns:List Int}{n:Nat}{tn:Tok}(kb:hb.StaysIn s.heap)(X:(Mine.hd.heap_39 w.params).In hb)(T:Top Mine.hd.view_39 loose mz mg mb hb)
  (hd:dp≤600) (hu:un≤6000) (hd1:s.heap.get? d=some (listOf vs.toArray n)) (hd0:hb.get? d=none) (hi:IntsAre vs ns) (hne:ns.length=9)
  (h:∀h' tk' R us c,h'.get? R=some (listOf us.toArray c)→IntsAre us ((srt ns).reverse.take 5)→s.heap.get? R=none→(∀b o,s.heap.get? b=some o→h'.get? b=some o)→Q (.ref R) {s with heap:=h',toks:=tk'}):
  wpAny (model PR w) (AR dp un fr gd) (call (.ref 313) [.int 5 tn,.ref d]) Q E s:=by
 revert w dp un fr gd s loose mz mg mb Q E hb d vs ns n tn
 as_aux_lemma=>
 k_extra "0U"
 k_extra "055"
 k_extra "0D"
 refine' C0 (binds:= [(Str.ofString "n",.int 5 tn),(Str.ofString "iterable",.ref d),(Str.ofString "key",.none)]) [(d,listOf vs.toArray n)] kb X T ?m ?k6 ?k7 ?k8 ?k9 ?kB ?kD ?_ ?c2 ?c3 ?c4
 k_extra "04"
 k_extra "08"
 k_extra "0b"
 k_extra "02s"
 k_extra "01P"
 k_cells Y
 k_extra "015"
 dsimp only
 try k_fold
 intro clo_ oC1 p_ dC1 N
 k_steps
 k_extra "0e"
 k_extra "0a"
 intro clo_ tk
 k_extra "03"
 obtain⟨m5,I,oL,c0,F6,N6,hm5,cL,dL,l5⟩:Ex4 fun m I oL c0=>DJ (Fr g L' _ m) (News g L' _ [(I,oL),(L'+1,c0),(d,listOf vs.toArray n)]) (Has m [(Str.ofString "n",.int 5 tn),(Str.ofString "it",.ref I)]) (oL.cls= .type "list_iterator") (oL.data= .fields #[.ref d,.int (0:Nat) 0]) ((@LT.lt Nat _ (L'+1) I∧@LT.lt Nat _ d I)):=
  ⟨_,_,_,_,F5,N5,⟨rfl,rfl,trivial⟩,rfl,rfl,by assumption⟩
 clear F5 N5
 have F7:=hm5.fr F6
 clear F6 hm5
 intro clo_ m5 I oL c0 p_ N6 cL dL l5 F7
 k_extra "03o"
 k_steps
 k_extra "0S"
 k_extra "0C"
 k_extra "03"
 refine FU (n:=5) (by decide) F8 N8 (by assumption) cL dL fun z TO TI RI h9 F9 N9 nT l9=>?_
 clear F8 N8
 intro clo_ z TO TI RI h9 p_ F9 N9 nT l9
 refine Fw (N9 _ (.head _)).1 rfl ?_
 refine⟨fun s' hs' Q E hQ=>Fw (hs' _ _ (N9 _ (.head _)).1) rfl hQ,_,F9,N9,?_⟩
 intro g' D C h₁ tk₁ k1 k2 F10 N10 lD lC
 have N11:News g' C h₁ (Bx z TO TI RI I .none false .none .none (-((0:Nat):Int)) (5-(0:Nat)) (-1) oL ((D,rl [] 0)::([]++ [(L'+1,c0),(d,listOf vs.toArray n)]))):=fun p hp=>N10 p (by
  simp only [Bx,List.mem_cons,List.not_mem_nil,or_false,List.nil_append] at hp⊢
  rcases hp with h|h|h|h|h|h|h|h<;>simp [h])
 k_extra "04m"
 refine⟨fun k m nw=>Ex8 fun(i:Nat) (as:List Addr) (tl:List (Addr×Obj)) (c1 c2:Value) (f1:Bool) (oJ:Obj) (cc:Nat)=>IY (k+i=5) (nw=Bx z TO TI RI I .none f1 c1 c2 (-(i:Int)) (5-i) (-1) oJ ((D,rl as cc)::(tl++ [(L'+1,c0),(d,listOf vs.toArray n)]))) (oJ.cls= .type "list_iterator") (oJ.data= .fields #[.ref d,.int (i:Nat) 0]) (as.length=i) ((∀j a,as[j]?=some a→∃t u,(a,AT (.int (ns.getD j 0) t) (.int (-(j:Int)) u))∈tl)) ((∀p∈tl,p.1≠z∧p.1≠TO∧p.1≠RI∧p.1≠I∧p.1≠D)),5,_,_,F10,N11,?_,?_⟩
 ·exact⟨0,[],[],.none,.none,false,oL,0,rfl,rfl,cL,dL,rfl,fun j a e=>by simp at e,fun p hp=>by simp at hp⟩
 have lz:∀p∈Bx z TO TI RI I .none false .none .none 0 5 (-1) oL [(L'+1,c0),(d,listOf vs.toArray n)],p.1≠D:=fun p hp=>Nat.ne_of_lt (lD p hp)
 clear F9 N9 F10 N10 N11
 rintro k m₁ nw₁ h₂ tk₂ F₂ N₂ ⟨i,as,tl,c1,c2,f1,oJ,cc,hk,rfl,cJ,dJ,hlen,htl,hne'⟩
 have hr:∀p∈(D,rl as cc)::(tl++ [(L'+1,c0),(d,listOf vs.toArray n)]),p.1≠z∧p.1≠TO∧p.1≠RI∧p.1≠I:=by
  intro p hp
  k_extra "02"
  ·exact⟨(lz _ (.head _)).symm,(lz _ mm1).symm,(lz _ mm2).symm,(lz _ mm3).symm⟩
  ·k_extra "01z"
   ·have:=hne' p hp
    exact⟨this.1,this.2.1,this.2.2.1,this.2.2.2.1⟩
   ·have:=l9 p (.tail _ hp)
    refine⟨Nat.ne_of_lt this.2.2,Nat.ne_of_lt this.2.1,Nat.ne_of_lt this.1,?_⟩
    k_extra "02C"
    rcases hp with rfl|rfl
    ·exact Nat.ne_of_lt l5.1
    ·exact Nat.ne_of_lt l5.2
 intro clo_ k m₁ h₂ tk₂ p_ F₂ d_ i as tl c1 c2 f1 oJ cc p_ hk cJ dJ hlen htl hne' N₂ hr
 by_cases hi5:i<5
 ·have hv:vs.toArray[i]?=some (.int (ns.getD i 0) (BE (vs.getD i .none))):=by
   rw [List.getElem?_toArray];exact Bs hi (by exact Ar.upG ‹_› ‹_› (by rfl))
  refine FT F₂ N₂ cJ dJ nT ⟨_,(N₂ (d,listOf vs.toArray n) (by simp)).1,rfl,n,rfl⟩ hv (by exact Ar.q365 hk hi5) hr fun T h3 tk3 t oK cK dK F3 N3 fT=>?_
  k_extra "02w"
  k_extra "04Z"
  intro clo_ T h3 tk3 t oK p_ cK dK F3 N3 fT
  refine HZ F3 N3 cK (fun p hp=>(hr p hp).1) fun h4 F4 N4=>?_
  k_extra "03L"
  refine unpackN_ F4 N4 ⟨_,(N4 _ (.head _)).1,rfl,0,rfl⟩ rfl rfl rfl fun h5 F5 N5=>?_
  have nTD:T≠D:=fun e=>by
   have:=(N₂ (D,rl as cc) mm5).1
   rw [←e,fT] at this;cases this
  clear F₂ N₂ F3 N3 F4 N4
  intro clo_ h5 p_ F5 N5
  k_steps
  k_extra "0G"
  k_extra "0x"
  rename _<_∧_<_∧_<_∧_<_∧_<_∧_<_∧_<_∧AllLt _ _=>l6
  k_extra "03"
  refine Eg F6 (fun p hp=>N6 p (Ha hp)) (.head ?_) (by exact Ar.upEL ‹_› ‹_› (by rfl)) fun h7 F7 N7=>?_
  ·intro p hp
   k_extra "05v"
   k_extra "02"
   ·exact Nat.ne_of_gt l6.2.2.2.2.2.2.1
   k_extra "02"
   ·exact nTD
   refine Jk lz (fun p hp=>?_) p hp
   k_extra "05v"
   k_extra "01z"
   ·exact(hne' p hp).2.2.2.2
   ·exact lz p (.tail _ (.tail _ (.tail _ (.tail _ (.tail _ hp)))))
  ·rw [show-(i:Int)+ -1= -((i+1:Nat):Int) by omega,show(5:Int)-i-1=5-((i+1:Nat):Int) by omega] at N7
   k_extra "04H"
   refine AZ.intro F7 (fun p hp=>N7 p (Id hp)) (n':=k-1) (by exact Ar.cdP ‹_› ‹_›) ⟨i+1,_,_::tl,_,_,false,oK,cc+1,by exact Ar.cd ‹_› ‹_›,rfl,cK,dK,by rw [List.length_append,hlen];rfl,by exact Jn hlen htl,fun p hp=>?_⟩
   k_extra "05v"
   k_extra "02"
   ·exact⟨Nat.ne_of_gt l6.2.1,Nat.ne_of_gt l6.2.2.1,Nat.ne_of_gt l6.2.2.2.1,Nat.ne_of_gt l6.2.2.2.2.1,Nat.ne_of_gt l6.2.2.2.2.2.2.1⟩
   ·exact hne' p hp
 ·refine FS rfl F₂ N₂ cJ (by exact Int.sub_nonpos_of_le (Int.ofNat_le.mpr (Nat.not_lt.mp hi5))) hr fun h3 tk3 F3 N3=>?_
  k_extra "02w"
  k_extra "04Z"
  intro clo_ h3 tk3 p_ F3 N3
  refine⟨_,_,F3,N3,fun h4 tk4 F4 N4=>?_⟩
  clear F₂ N₂ F3 N3
  k_extra "02x"
  obtain rfl:i=5:=by exact Ar.ceN ‹_› ‹_›
  have F5:=F4
  have hID:I≠D:=lz _ mm3
  have hbD:∀p∈ [(L'+1,c0),(d,listOf vs.toArray n)],p.1≠D:=fun p hp=>lz p (.tail _ (.tail _ (.tail _ (.tail _ (.tail _ hp)))))
  have htD:∀p∈tl,p.1≠D:=fun p hp=>(hne' p hp).2.2.2.2
  have htI:∀p∈tl,p.1≠I:=fun p hp=>(hne' p hp).2.2.2.1
  clear F4 lz hr hne' l9
  k_steps
  k_extra "0G"
  k_extra "0x"
  intro clo_ tk
  k_extra "03"
  obtain⟨π,hs,hπ,htp⟩:=JB hlen htl (fun q hq=>(N6 q (.tail _ (.tail _ (List.mem_append_left _ hq)))).1)
  intro clo_ π p_ hs hπ htp
  refine Cw (fun a=> [(π a).1,(π a).2]) (Fr.keep F6) X' T' (show dp+1≤700 by exact Ar.up ‹_› (by rfl)) (show un+3≤7000 by exact Ar.up ‹_› (by rfl)) (N6 _ mm1).1 (N6 _ mm1).2.2 (by exact Ar.upE ‹_› (by rfl))
   (fun a ha=>⟨by obtain⟨t,u,hm⟩:=htp a ha;exact htD _ hm,htp.tup (fun q hq=>(N6 q (.tail _ (.tail _ (List.mem_append_left _ hq)))).1) a ha⟩) fun h7 tk7 k7 e7=>?_
  k_extra "05t"
  obtain⟨F7,N7⟩:=after F6 N6 (.tail hID (.head fun p hp=>(List.mem_append.mp hp).elim (htD p) (hbD p))) k7 e7
  have T5:=AV.start (π:=π) (by exact hne▸by decide) hlen hs hπ
  have htp5:BQ π (AQ (fun a b=>AI [(π a).1,(π a).2] [(π b).1,(π b).2]) (as.length/2) as) tl:=htp.perm (CI (K:=fun a=>pk (π a)) (fun a b=>Dw (hs a) (hs b)) as).2
  generalize AQ (fun a b=>AI [(π a).1,(π a).2] [(π b).1,(π b).2]) (as.length/2) as=bs at F7 N7 T5 htp5
  intro clo_ bs p_ N7 T5 htp5
  obtain⟨tr,ur,hroot⟩:=htp5 _ T5.ne
  have N8:News g L' h7 ((bs.getD (Int.toNat 0) 0,AT (.int (π (bs.getD 0 0)).1 tr) (.int (π (bs.getD 0 0)).2 ur))::(I,oJ)::(D,rl bs cc)::(tl++ [(L'+1,c0),(d,listOf vs.toArray n)])):=fun p hp=>by
   k_extra "02"
   ·exact N7 _ (.tail _ (.tail _ (List.mem_append_left _ hroot)))
   ·exact N7 p hp
  have hbl:=T5.len
  clear F6 N6 N7 k7 e7
  intro clo_ tr ur p_ hroot N8
  k_steps
  k_extra "01X"
  k_extra "01p"
  k_extra "03"
  refine HX F9 ?_
  k_steps
  rename Fr _ _ _ _=>F10
  rename News _ _ _ _=>N10
  k_extra "03"
  refine wpAny_pyIter_listiter (l:=d) (i:=5) ⟨oJ,(N10 _ mm1).1,cJ,dJ⟩ ?_
  have N11:News g L' _ ((I,oJ)::(D,rl bs cc)::(tl++ [(L'+1,c0),(d,listOf vs.toArray n)])):=fun p hp=>N10 p (.tail _ hp)
  refine⟨fun k m nw=>Pu fun(i:Nat) (bs:List Addr) (tl:List (Addr×Obj)) (π:Addr→Int×Int) (ord:Int) (drop:List Int) (oJ:Obj) (cc:Nat) (t1 t2:Tok)=>KQ (k+i=9) (nw=(I,oJ)::(D,rl bs cc)::(tl++ [(L'+1,c0),(d,listOf vs.toArray n)])) (oJ.cls= .type "list_iterator") (oJ.data= .fields #[.ref d,.int (i:Nat) 0]) (AV ns π bs ord i drop) (BQ π bs tl) ((∀p∈tl,p.1≠D)) ((∀p∈tl,p.1≠I)) (Has m [(Str.ofString "result",.ref D),(Str.ofString "top",.int (π (bs.getD 0 0)).1 t1),(Str.ofString "order",.int ord t2),(Str.ofString "_heapreplace",.ref 286)]),4,_,_,F10,N11,⟨5,bs,tl,π,-5,[],oJ,cc,_,_,rfl,rfl,cJ,dJ,T5,htp5,htD,htI,⟨rfl,rfl,rfl,rfl,trivial⟩⟩,?_⟩
  have hbI:∀p∈ [(L'+1,c0),(d,listOf vs.toArray n)],p.1≠I:=By (P:=fun p=>p.1≠I) (Nat.ne_of_lt l5.1) (Nat.ne_of_lt l5.2)
  have hvl:vs.length=9:=by rw [AC hi,hne]
  clear F10 N10 N11 T5 htp5 htD htI hroot htl hlen hi5 hπ htp hs cJ dJ hk hbl
  rintro k1 m₁ nw₁ h₂ tk₂ F₂ N₂ ⟨i,bs,tl,π,ord,drop,oJ,cc,t1,t2,hk,rfl,cJ,dJ,T,htp,htD,htI,hm⟩
  intro clo_ k1 m₁ h₂ tk₂ p_ F₂ d_ i bs tl π ord drop oJ cc t1 t2 p_ hk cJ dJ T htp htD htI hm N₂
  refine Ao rfl F₂ N₂ cJ dJ ⟨_,(N₂ (d,listOf vs.toArray n) (.tail _ (.tail _ (List.mem_append_right _ mm1)))).1,rfl,n,rfl⟩ ?_ ?_ ?_
  ·intro p hp
   k_extra "05v"
   k_extra "02"
   ·exact hID.symm
   ·exact(List.mem_append.mp hp).elim (htI p) (hbI p)
  ·intro v hv h3 oK cK dK F3 N3
   have hi9:i<9:=by have:=(List.getElem?_eq_some_iff.mp hv).1;exact Ar.rr2 ‹_› ‹_›
   have ev:v= .int (ns.getD i 0) (BE (vs.getD i .none)):=by
    have:=Bs hi (k:=i) (by exact Ar.rl ‹_› ‹_›)
    rw [hv] at this
    k_extra "02y"
   subst ev
   k_extra "0R"
   k_extra "04G"
   have F4:=hm.fr F3
   k_extra "05x"
   intro clo_ h3 oK p_ cK dK N3 F4
   k_steps
   ·k_extra "0G"
    k_extra "0x"
    rename (π _).1<_=>hlt
    rename _<_∧_<_∧AllLt _ _=>l6
    intro clo_ tk
    k_extra "03"
    obtain⟨π',o2,htp1,TR,htpR⟩:=LB T (by exact Ar.rl ‹_› ‹_›) (by exact Ar.upET ‹_› (by rfl)) htp (EJ l6.2.2) hlt
    intro clo_ π' p_ o2 htp1 TR htpR
    refine Bu (fun a=> [(π' a).1,(π' a).2]) (Fr.keep F6) X' T' (show dp+1≤700 by exact Ar.up ‹_› (by rfl)) (show un+3≤7000 by exact Ar.up ‹_› (by rfl)) (N6 _ mm2).1 (N6 _ mm2).2.2 (by rw [T.len];decide) (by rw [T.len];decide)
     (fun a ha=>⟨by obtain⟨t,u,hm⟩:=htp1 a ha;exact htD _ hm,htp1.tup (fun q hq=>(N6 q (.tail _ (.tail _ (.tail _ (List.mem_append_left _ hq))))).1) a ha⟩)
     ⟨Nat.ne_of_gt l6.2.1,by rw [o2];exact⟨_,0,(N6 _ (.head _)).1,.cons _ _ (.cons _ _ .nil)⟩⟩ fun h7 tk7 k7 e7=>?_
    k_extra "05t"
    obtain⟨F7,N7⟩:=after F6 N6 (.tail (Nat.ne_of_gt l6.2.1) (.tail hID (.head fun p hp=>(List.mem_append.mp hp).elim (htD p) (hbD p)))) k7 e7
    have htpS:=htpR (BE (vs.getD i .none)) t2
    clear htpR F6 N6 k7 e7 o2 htp1
    generalize siftup (fun x y=>AI [(π' x).1,(π' x).2] [(π' y).1,(π' y).2]) 0 (bs.set 0 _)=cs at F7 N7 TR htpS
    intro clo_ cs p_ N7 TR htpS
    obtain⟨tr,ur,hroot⟩:=htpS _ TR.ne
    have N8:=Ds (a:=cs.getD (Int.toNat 0) 0) N7 (PO hroot)
    have hcl:=TR.len
    clear N7
    intro clo_ tr ur p_ hroot N8
    k_steps
    k_extra "01X"
    k_extra "01p"
    exact AZ.intro F9 (fun p hp=>N9 p (Gq hp)) (n':=k1-1) (by exact Ar.cdP ‹_› ‹_›) ⟨i+1,cs,_::tl,π',ord-1,_,oK,cc,_,_,by exact Ar.cd ‹_› ‹_›,rfl,cK,dK,TR,htpS,List.forall_mem_cons.mpr ⟨Nat.ne_of_gt l6.2.1,htD⟩,List.forall_mem_cons.mpr ⟨Nat.ne_of_gt l6.1,htI⟩,⟨rfl,rfl,rfl,rfl,trivial⟩⟩
   ·k_extra "0G"
    k_extra "0x"
    rename ¬(π _).1<_=>hlt
    exact AZ.intro F6 N6 (n':=k1-1) (by exact Ar.cdP ‹_› ‹_›) ⟨i+1,bs,tl,π,ord,_,oK,cc,t1,t2,by exact Ar.cd ‹_› ‹_›,rfl,cK,dK,T.keep (by exact Ar.rl ‹_› ‹_›) hlt,htp,htD,htI,⟨rfl,rfl,rfl,rfl,trivial⟩⟩
  ·intro hv h3 F3 N3
   k_extra "01m"
   obtain rfl:i=9:=by have:=List.getElem?_eq_none_iff.mp hv;exact Ar.ceR ‹_› ‹_› ‹_›
   k_extra "0R"
   k_extra "04G"
   have F4:=hm.fr F3
   k_extra "05x"
   k_steps
   k_extra "0e"
   k_extra "0a"
   k_extra "03"
   show wpAny _ _ (call (.builtin "list.sort") [.ref D] [(Str.ofString "reverse",.bool true)]) _ _ _
   refine DV (π:=π) (N5 _ (.head _)).1 (by rw [T.len];decide) (fun x hx=>by
    obtain⟨t,u,hm⟩:=htp x hx
    exact⟨htD _ hm,⟨t,u,0,(N5 _ (.tail _ (List.mem_append_left _ hm))).1⟩,T.small x⟩) T.pknd fun cs h6 c6 p6 o6 k6 e6=>?_
   intro clo_ cs h6 c6 p_ p6 o6 k6 e6
   obtain⟨F6,N6⟩:=after F5 N5 (.head fun p hp=>(List.mem_append.mp hp).elim (htD p) (hbD p)) k6 e6
   have hcl:cs.length=5:=p6.length_eq.trans T.len
   have htc:=htp.perm p6
   rw [←hne] at T
   have vals:=T.fin p6 o6
   clear F5 N5 k6 e6
   k_steps
   k_extra "022"
   k_extra "01b"
   k_extra "03"
   refine Jh F7 rfl (by decide) rfl (by decide) ?_
   k_steps
   k_extra "0S"
   k_extra "0C"
   k_extra "03"
   refine Ad F8 N8 ⟨_,(N8 _ (.head _)).1,rfl,c6,rfl⟩ fun I2 h9 F9 N9 l9=>?_
   k_extra "04I"
   k_extra "016"
   intro g2 D2 C h₁ tk₁ k1 k2 F10 N10 lD lC
   have N11:News g2 C h₁ ((I2,{cls:=.type "list_iterator",data:=.fields #[.ref D,.int 0 0]})::(D2,listOf ([]:List Value).toArray 0)::(D,rl cs c6)::(tl++ [(L'+1,c0),(d,listOf vs.toArray n)])):=fun p hp=>by
    k_extra "02"
    ·exact N10 _ mm1
    k_extra "02"
    ·exact N10 _ (.head _)
    ·exact N10 _ (.tail _ (.tail _ hp))
   k_extra "04g"
   refine⟨fun k m nw=>Ex4 fun(i:Nat) (us:List Value) (oK:Obj) (cc:Nat)=>DJ (k+i=5) (nw=(I2,oK)::(D2,listOf us.toArray cc)::(D,rl cs c6)::(tl++ [(L'+1,c0),(d,listOf vs.toArray n)])) (oK.cls= .type "list_iterator") (oK.data= .fields #[.ref D,.int (i:Nat) 0]) (us.length=i) (IntsAre us ((cs.take i).map fun a=>(π a).1)),5,_,_,F10,N11,⟨0,[],_,0,rfl,rfl,rfl,rfl,rfl,.nil⟩,?_⟩
   clear F9 N9 F10 N10 N11
   rintro k2' m₁ nw₁ h₂ tk₂ F₂ N₂ ⟨i,us,oK,cd,hk2,rfl,cK,dK,hul,hius⟩
   have neI2:∀p∈(D,rl cs c6)::(tl++ [(L'+1,c0),(d,listOf vs.toArray n)]),p.1≠I2:=fun p hp=>Nat.ne_of_lt (l9 p hp)
   have neD2:∀p∈(D,rl cs c6)::(tl++ [(L'+1,c0),(d,listOf vs.toArray n)]),p.1≠D2:=fun p hp=>Nat.ne_of_lt (lD p (.tail _ hp))
   k_extra "02V"
   intro clo_ k2' m₁ h₂ tk₂ p_ F₂ d_ i us oK cd p_ hk2 cK dK hul hius N₂
   refine Da rfl F₂ N₂ cK dK ⟨_,(N₂ _ mm2).1,rfl,c6,rfl⟩ (fun p hp=>?_) ?_ ?_
   ·k_extra "05v"
    k_extra "02"
    ·exact nID2.symm
    ·exact neI2 p hp
   ·intro a ha h3 oJ' cJ' dJ' F3 N3
    k_extra "02w"
    k_extra "04Z"
    intro clo_ a p_ ha d_ h3 oJ' p_ cJ' dJ' F3 N3
    obtain⟨tt,tu,hm⟩:=htc a (List.mem_of_getElem? ha)
    intro clo_ tt tu p_ hm
    refine wpAny_letOwnedTupleGo_listiter ⟨oJ',(N3 _ (.head _)).1,cJ',dJ'⟩ ?_
    refine unpackN_ F3 N3 ⟨_,(N3 _ (.tail _ (.tail _ (.tail _ (List.mem_append_left _ hm))))).1,rfl,0,rfl⟩ rfl rfl rfl fun h5 F5 N5=>?_
    clear F₂ N₂ F3 N3
    intro clo_ h5 p_ F5 N5
    k_steps
    k_extra "0G"
    k_extra "0x"
    k_extra "03"
    have hi5:=(List.getElem?_eq_some_iff.mp ha).1
    refine AP F6 N6 (.tail nID2 (.head neD2)) (by exact hul▸Nat.le_trans (Nat.le_of_lt hi5) (hcl▸by decide)) fun h7 F7 N7=>?_
    k_extra "04H"
    refine AZ.intro F7 N7 (n':=k2'-1) (by exact Ar.cdRP ‹_› ‹_› ‹_›) ⟨i+1,_,oJ',cd+1,by exact Ar.cdR ‹_› ‹_› ‹_›,rfl,cJ',dJ',by rw [List.length_append,hul];rfl,?_⟩
    rw [JV ha]
    exact B8 hius _ _
   ·intro ha h3 F3 N3
    k_extra "02w"
    k_extra "04Z"
    have hi5:=List.getElem?_eq_none_iff.mp ha
    k_extra "01m"
    obtain rfl:i=5:=by exact Ar.ceR ‹_› ‹_› ‹_›
    refine⟨_,_,F3,N3,fun h4 F4 N4=>?_⟩
    clear F₂ N₂ F3 N3
    rw [List.take_of_length_le (by assumption),vals] at hius
    k_extra "03L"
    k_steps
    exact h _ _ _ us cd (N4 _ (.head _)).1 hius (BF (fs:= []) keep KtsTurn.refl (N4 _ (.head _)).2.2 (AL (lD (d,listOf vs.toArray n) (.tail _ (.tail _ (List.mem_append_right _ mm1)))))) (Ax keep F4 (AL hd1) (AL (N4 (d,listOf vs.toArray n) (.tail _ (.tail _ (List.mem_append_right _ mm1)))).1))
theorem kw_W26_e:True:=by
 k_with "oW26"=>skip
 trivial
theorem kw_W27_1:True:=by
 k_with "ar"=>((fail_if_success k_extra "oW27");with_reducible first|assumption|exact Ne.symm ‹_›|exact Int.ofNat_lt.mpr ‹_›|exact Nat.zero_le _|exact Int.natCast_nonneg _|exact Ar.q133 ‹_›|exact Ar.q137 ‹_›|exact Ar.q139 ‹_›|exact Ar.q144 ‹_›|exact Ar.q148 ‹_›|exact Ar.q260 ‹_› ‹_›|exact Ar.q161 ‹_› ‹_›|exact Ar.r111 ‹_›|exact Ar.r114 ‹_›|exact Ar.r116 ‹_›|exact Ar.r118 ‹_›|exact Ar.r126 ‹_›|exact Ar.r244 ‹_›|exact Ar.r274 ‹_› ‹_›|exact Ar.r273 ‹_› ‹_›|exact Ar.r286 ‹_› ‹_›|k_extra "arN")
 trivial
theorem kw_W27_2:True:=by
 k_with "Mcall ref"=>((fail_if_success k_extra "oW27");((with_reducible show wpAny _ _ (call (Value.ref 257) _ _) _ _ _);refine Stop.at ?_))
 k_with "Mcall ref"=>((fail_if_success k_extra "oW27");((with_reducible show wpAny _ _ (call (Value.ref 264) _ _) _ _ _);refine Stop.at ?_))
 k_with "MsubscriptTail Name Slice ref ref"=>((fail_if_success k_extra "oW27");refine Stop.at ?_)
 trivial
theorem G7 {d:Addr}{vs:List Value}{ns:List Int}{n:Nat}(kb:hb.StaysIn s.heap)(X:(Mine.hd.heap_39 w.params).In hb)(T:Top Mine.hd.view_39 loose mz mg mb hb)
  (hd:dp≤500) (hu:un≤5000) (hd1:s.heap.get? d=some (listOf vs.toArray n)) (hd0:hb.get? d=none) (hi:IntsAre vs ns) (hne:ns.length=9)
  (h:∀h' tk',(∀b o,s.heap.get? b=some o→h'.get? b=some o)→Q (.bool true) {s with heap:=h',toks:=tk'}):
  wpAny (model PR w) (AR dp un fr gd) (call (.ref 391) [.ref d]) Q E s:=by
 revert w dp un fr gd s loose mz mg mb Q E hb d vs ns n
 as_aux_lemma=>
 k_extra "03Y"
 k_extra "055"
 k_extra "0D"
 refine' Ag (binds:= [(Str.ofString "row",.ref d)]) [(d,listOf vs.toArray n)] kb X T ?m ?k6 ?k7 ?k8 ?k9 ?kB ?_ ?c2 ?c3 ?c4 ?c5
 k_extra "04"
 k_extra "00"
 k_extra "0f"
 dsimp only
 k_extra "0g"
 k_fold
 k_steps
 k_extra "0e"
 k_extra "0a"
 k_extra "05l"
 k_extra "03R"
 have e:=Bk p6 o6
 subst e
 have sl:=AY ns
 intro clo_ tk
 k_extra "03"
 obtain⟨m5,D,v5,c5,F6,N6,hm5,i5,l5⟩:∃m D v c,Fr g L' _ m∧News g L' _ [(D,listOf v.toArray c),(d,listOf vs.toArray n)]∧Has m [(Str.ofString "row",.ref d),(Str.ofString "rising",.ref D)]∧IntsAre v (srt ns)∧@LT.lt Nat _ d D:=⟨_,_,_,_,F5,N5,⟨rfl,rfl,trivial⟩,by assumption,by assumption⟩
 intro clo_ m5 D v5 c5 p_ F6 N6 hm5 i5 l5
 refine JD (Fr.keep F6) X' T' (show dp+1≤600 by exact Ar.up ‹_› (by rfl)) (show un+3≤6000 by exact Ar.up ‹_› (by rfl)) (N6 _ mm1).1 (N6 _ mm1).2.2 hi hne fun h7 tk7 R us c7 eR iR fR k7=>?_
 have F7:=hm5.fr (F6.kept k7)
 have N7:=Al F6 (N6.grown k7) fR eR
 have lR:@Ne Nat R D∧@Ne Nat R d:=⟨fun e=>(by rw [e,(N6 _ (.head _)).1] at fR;cases fR),fun e=>(by rw [e,(N6 _ mm1).1] at fR;cases fR)⟩
 clear F5 N5 F6 N6 hm5
 intro clo_ h7 tk7 R us c7 p_ eR iR fR k7 F7 N7 lR
 k_steps
 k_extra "03"
 refine slice_list3 (lo:=none) (hi:=some 3) (st:=some (-1)) F7 N7 ⟨_,(N7 _ mm1).1,rfl,c5,rfl⟩ .none (.int _ _) (.int _ _) (by decide) (fun h8 F8 N8=>?_) (by with_unfolding_all rfl) (by intro _;with_unfolding_all rfl) (by rw [List.size_toArray,AC i5,sl,hne,sizeLine_eq];decide)
 have i8:=i5.pick none (some 3) (some (-1))
 rw [K7 (sl.trans hne)] at i8
 k_extra "04a"
 obtain⟨ws,hws⟩:∃ws:List Value,slicePick v5.toArray none (some 3) (some (-1))=ws.toArray:=⟨_,Array.toArray_toList.symm⟩
 rw [hws] at i8 N8
 have i8':IntsAre ws ((srt ns).reverse.take 5):=i8
 clear F7 N7 i8 hws
 intro clo_ ws p_ N8 i8'
 k_steps
 k_extra "01X"
 k_extra "01p"
 intro clo_ tk
 k_extra "03"
 refine DP (Fr.keep F9) X' T' (show dp+1≤700 by exact Ar.up ‹_› (by rfl)) (show un+3≤7000 by exact Ar.up ‹_› (by rfl)) (N9 (d,listOf vs.toArray n) (by simp)).1 (N9 (d,listOf vs.toArray n) (by simp)).2.2 hi (by exact Ar.upGc ‹_› (by rfl)) (by exact Ar.upET ‹_› (by rfl)) fun h10 tk10 t10 k10=>?_
 rw [show(ns.length-1)/2=Int.toNat 4 by rw [hne];rfl]
 have F10:=F9.kept k10
 have N10:=N9.grown k10
 clear F9 N9 k10
 intro clo_ h10 tk10 t10 p_ F10 N10
 k_steps
 k_extra "05m"
 k_extra "03S"
 k_extra "03"
 refine Cu (Fr.keep F11) X' T' (show dp+1≤700 by exact Ar.up ‹_› (by rfl)) (show un+3≤7000 by exact Ar.up ‹_› (by rfl)) (N11 (d,listOf vs.toArray n) (by simp)).1 (N11 (d,listOf vs.toArray n) (by simp)).2.2 hi (by exact Ar.upGc ‹_› (by rfl)) (by exact Ar.upET ‹_› (by rfl)) fun h12 tk12 t12 k12=>?_
 rw [show ns.length/2=Int.toNat 4 by rw [hne];rfl]
 have F12:=F11.kept k12
 have N12:=N11.grown k12
 clear F11 N11 k12
 intro clo_ h12 tk12 t12 p_ F12 N12
 k_steps
 intro clo_ tk
 all_goals first
 |(exfalso;rename (srt ns).getD _ _≠_=>hx;exact hx rfl)
 |(rename Fr _ _ _ _=>F13
   k_extra "05n"
   exact h _ _ (Ax keep F13 (AL hd1) (AL (N13 (d,listOf vs.toArray n) (by simp)).1)))
theorem kw_W27_e:True:=by
 k_with "oW27"=>skip
 trivial
theorem kw_W28_1:True:=by
 k_with "ar"=>((fail_if_success k_extra "oW28");with_reducible first|assumption|exact Ne.symm ‹_›|exact Int.ofNat_lt.mpr ‹_›|exact Nat.zero_le _|exact Int.natCast_nonneg _|exact Ar.q69 ‹_›|exact Ar.q84 ‹_›|exact Ar.r318 ‹_›|k_extra "arN")
 trivial
theorem Hz {P:Params}{g:Heap}(X:(Mine.hd.heap_39 P).In g):∀(i:Nat) (x:Value),#[Value.ref 328,.ref 330,.ref 332,.ref 336,.ref 338,.ref 340,.ref 344,.ref 346,.ref 348,.ref 352][i]?=some x→∃(T:Addr) (rs:List Addr) (es:List (Int×Nat)),x= .ref T∧tbl[i]?=some es∧Tab g T rs es:=by
 intro i x hx
 rcases i with _|_|_|_|_|_|_|_|_|_|i
 ·cases hx;exact⟨328,[321,322,323,324,325,326,327],_,rfl,rfl,⟨_,X _ _ (by k_is),rfl,_,rfl⟩,rfl,Tab.two ⟨_,X _ _ (by k_is),rfl,_,rfl⟩ (Tab.two ⟨_,X _ _ (by k_is),rfl,_,rfl⟩ (Tab.two ⟨_,X _ _ (by k_is),rfl,_,rfl⟩ (Tab.two ⟨_,X _ _ (by k_is),rfl,_,rfl⟩ (Tab.two ⟨_,X _ _ (by k_is),rfl,_,rfl⟩ (Tab.two ⟨_,X _ _ (by k_is),rfl,_,rfl⟩ (Tab.two ⟨_,X _ _ (by k_is),rfl,_,rfl⟩ Tab.nil))))))⟩
 ·cases hx;exact⟨330,[329],_,rfl,rfl,⟨_,X _ _ (by k_is),rfl,_,rfl⟩,rfl,Tab.two ⟨_,X _ _ (by k_is),rfl,_,rfl⟩ Tab.nil⟩
 ·cases hx;exact⟨332,[331],_,rfl,rfl,⟨_,X _ _ (by k_is),rfl,_,rfl⟩,rfl,Tab.two ⟨_,X _ _ (by k_is),rfl,_,rfl⟩ Tab.nil⟩
 ·cases hx;exact⟨336,[333,334,335],_,rfl,rfl,⟨_,X _ _ (by k_is),rfl,_,rfl⟩,rfl,Tab.two ⟨_,X _ _ (by k_is),rfl,_,rfl⟩ (Tab.two ⟨_,X _ _ (by k_is),rfl,_,rfl⟩ (Tab.two ⟨_,X _ _ (by k_is),rfl,_,rfl⟩ Tab.nil))⟩
 ·cases hx;exact⟨338,[337],_,rfl,rfl,⟨_,X _ _ (by k_is),rfl,_,rfl⟩,rfl,Tab.two ⟨_,X _ _ (by k_is),rfl,_,rfl⟩ Tab.nil⟩
 ·cases hx;exact⟨340,[339],_,rfl,rfl,⟨_,X _ _ (by k_is),rfl,_,rfl⟩,rfl,Tab.two ⟨_,X _ _ (by k_is),rfl,_,rfl⟩ Tab.nil⟩
 ·cases hx;exact⟨344,[341,342,343],_,rfl,rfl,⟨_,X _ _ (by k_is),rfl,_,rfl⟩,rfl,Tab.two ⟨_,X _ _ (by k_is),rfl,_,rfl⟩ (Tab.two ⟨_,X _ _ (by k_is),rfl,_,rfl⟩ (Tab.two ⟨_,X _ _ (by k_is),rfl,_,rfl⟩ Tab.nil))⟩
 ·cases hx;exact⟨346,[345],_,rfl,rfl,⟨_,X _ _ (by k_is),rfl,_,rfl⟩,rfl,Tab.two ⟨_,X _ _ (by k_is),rfl,_,rfl⟩ Tab.nil⟩
 ·cases hx;exact⟨348,[347],_,rfl,rfl,⟨_,X _ _ (by k_is),rfl,_,rfl⟩,rfl,Tab.two ⟨_,X _ _ (by k_is),rfl,_,rfl⟩ Tab.nil⟩
 ·cases hx;exact⟨352,[349,350,351],_,rfl,rfl,⟨_,X _ _ (by k_is),rfl,_,rfl⟩,rfl,Tab.two ⟨_,X _ _ (by k_is),rfl,_,rfl⟩ (Tab.two ⟨_,X _ _ (by k_is),rfl,_,rfl⟩ (Tab.two ⟨_,X _ _ (by k_is),rfl,_,rfl⟩ Tab.nil))⟩
 ·simp at hx
theorem Tab.keeps {g h:Heap}{T:Addr}{rs:List Addr}{es:List (Int×Nat)}(t:Tab g T rs es)(k:g.StaysIn h):Tab h T rs es:=
 have kt:∀{a:Addr} {items:Array Value},g.IsTuple a items→h.IsTuple a items:=fun⟨o,e,r⟩=>⟨o,k _ _ e,r⟩
 ⟨kt t.1,t.2.1,fun j r e=>let⟨x,tb,tc,e1,e2⟩:=t.2.2 j r e;⟨x,tb,tc,e1,kt e2⟩⟩
theorem kw_W28_2:True:=by
 k_with "Mexec For Tuple Call cons nil"=>((fail_if_success k_extra "oW28");refine Stop.at ?_)
 k_with "Mexec For Tuple Name cons cons"=>((fail_if_success k_extra "oW28");refine Stop.at ?_)
 trivial
theorem ID {b:Int}{t:Tok}(kb:hb.StaysIn s.heap)(X:(Mine.hd.heap_39 w.params).In hb)(T:Top Mine.hd.view_39 loose mz mg mb hb)
  (hd:dp≤900) (hu:un≤9000) (hQ:∀v t' tk h',s.heap.StaysIn h'→Q (.int v t') {s with heap:=h',toks:=tk}):
  wpAny (model PR w) (AR dp un fr gd) (call (.ref 320) [.int b t]) Q E s:=by
 k_extra "0D"
 k_extra "01s"
 k_extra "03D"
 k_extra "00"
 k_extra "0f"
 dsimp only
 k_fold
 k_steps
 rename Fr g L' _ _=>F9
 exact hQ _ _ _ _ fun b o e=>F9.keep b o (keep b o e (by simp))
theorem kw_W28_3:True:=by
 k_with "Mcall builtin:list.append"=>((fail_if_success k_extra "oW28");(k_here;(with_unfolding_all refine' AP ?k1 ?k2 ?k3 ?k4 ?_;(case k1=>k_asm);(case k2=>k_asm);(case k3=>k_upd);(case k4=>with_unfolding_all assumption);k_whole);intro q_h' q_F' q_N';(try k_sweep)))
 k_with "Mcall ref"=>((fail_if_success k_extra "oW28");((with_reducible show wpAny _ _ (call (Value.ref 320) _ _) _ _ _);refine Stop.at ?_))
 trivial
theorem Hy {b:Int}{t:Tok}(kb:hb.StaysIn s.heap)(X:(Mine.hd.heap_39 w.params).In hb)(T:Top Mine.hd.view_39 loose mz mg mb hb)
  (hd:dp≤700) (hu:un≤7000) (hQ:∀(x:Str) t' tk h',x.cps.size=10→(∀j,1≤j→j<10→x.cps[j]?=some (sgn b j))→s.heap.StaysIn h'→Q (.str x t') {s with heap:=h',toks:=tk}):
  wpAny (model PR w) (AR dp un fr gd) (call (.ref 360) [.int b t]) Q E s:=by
 revert w dp un fr gd s loose mz mg mb Q E hb b t
 as_aux_lemma=>
 intro pick_ w dp un fr gd s loose mz mg mb Q E hb b t
 intro kb X T hd hu hQ
 k_extra "0D"
 k_extra "01s"
 k_extra "03D"
 k_extra "00"
 k_extra "0f"
 dsimp only
 k_extra "0g"
 k_fold
 k_steps
 rename Fr g L' _ _=>F6
 intro clo_ tk
 k_extra "03"
 refine HX F6 ?_
 k_steps
 rename Fr g L' _ _=>F6
 rename News g L' _ _=>N6
 have HT:∀{h:Heap},g.StaysIn h→h.IsTuple 353 #[.ref 328,.ref 330,.ref 332,.ref 336,.ref 338,.ref 340,.ref 344,.ref 346,.ref 348,.ref 352]:=fun k=>⟨_,k _ _ (X' _ _ (by k_is)),rfl,_,rfl⟩
 have TT:=Hz X'
 refine EX F6 N6 (HT F6.keep) fun e it h7 F7 N7 lt7 ne7=>?_
 clear F6 N6
 intro clo_ e it h7 p_ F7 N7 lt7 ne7
 refine wpAny_pyIter_enum (N7 _ (.head _)).1 ?_
 obtain⟨P,m7,F8,N8,hm8,lt8⟩:Ex2 fun P m=>KR (Fr g L' h7 m) (News g L' h7 [(e,enO .none it 0 .none),(it,tiO 353 0),(P,listOf #[] 0)]) (Has m [(Str.ofString "mode",.int b t),(Str.ofString "perm",.ref P)]) ((@LT.lt Nat _ P it∧@LT.lt Nat _ P e)):=⟨_,_,F7,N7,⟨rfl,rfl,trivial⟩,lt7 _ (.head _)⟩
 clear F7 N7 lt7
 intro clo_ P m7 p_ F8 N8 hm8 lt8
 refine⟨fun n m nw=>Ex6 fun(i:Nat) (us:List Value) (ys:List Str) (nn:Nat) (old:Value) (oT:Obj)=>DJ (i+n=10) (oT.cls= .type "tuple_iterator") (oT.data= .fields #[.ref 353,.int (i:Nat) 0]) (Bh b us ys i) (Has m [(Str.ofString "mode",.int b t),(Str.ofString "perm",.ref P)]) (nw= [(e,enO .none it i old),(it,oT),(P,listOf us.toArray nn)]),10,_,_,F8,N8,?_,?_⟩
 ·exact⟨0,[],[],0,.none,_,rfl,rfl,rfl,.nil,hm8,rfl⟩
 clear F8 N8 hm8
 rintro n m8 nw8 h8 tk8 F8 N8 ⟨i,us,ys,nn,old,oT,hi,cT,dT,sg,hm,rfl⟩
 have F9:=hm.fr F8
 clear F8 hm
 have ul:=sg.len
 have ul3:us.length≤1000:=by exact Ar.r182 hi ul
 have rr:∀p∈ [(P,listOf us.toArray nn)],p.1≠e∧p.1≠it:=fun p hp=>by
  rw [List.mem_singleton] at hp
  subst hp
  exact⟨Nat.ne_of_lt lt8.2,Nat.ne_of_lt lt8.1⟩
 have Te:(353:Addr)≠e:=by
  obtain⟨o,eo,co,_⟩:=HT F9.keep
  exact AS eo (N8 _ (.head _)).1 (by rw [co];simp)
 intro clo_ n m8 h8 tk8 i us ys nn old oT p_ hi cT dT sg N8 F9 ul ul3 rr
 refine IL rfl F9 N8 cT dT (HT F9.keep) rr Te ?_ ?_
 ·intro x hx a h10 tk10 ti oT' c' d' F10 N10 ra
  clear F9 N8 Te
  have ae:a≠e:=AS (N10 _ (.head _)).1 (N10 _ mm1).1 (by simp)
  k_extra "04G"
  intro clo_ x p_ hx d_ a h10 tk10 ti oT' p_ c' d' F10 N10 ra ae
  refine G8 F10 N10 ae (fun p hp=>?_) fun h11 F11 N11=>?_
  ·k_extra "05v"
   k_extra "02"
   ·exact Ne.symm ne7
   ·exact(rr p hp).1
  clear F10 N10
  intro clo_ h11 p_ F11 N11
  obtain⟨T,rs,es,rfl,eT,tab⟩:=TT i x hx
  clear TT HT hx
  have i10:i<10:=(List.getElem?_eq_some_iff.mp eT).1
  have n1:n-1<n:=by exact Ar.cdCP ‹_› ‹_›
  have n2':i+1+(n-1)=10:=by exact Ar.cdC ‹_› ‹_›
  intro clo_ T rs es p_ N11 eT tab
  k_steps
  rename Fr g L' _ _=>F12
  rename News g L' _ _=>N12
  intro clo_ tk
  k_extra "03"
  refine Ps F12 ?_
  k_steps
  rename Fr g L' _ _=>F12
  rename News g L' _ _=>N12
  have nA:=(N12 _ (.head _)).1
  have N13:News g L' _ [(e,enO .none it (i+1:Nat) (.ref T)),(it,oT'),(P,listOf us.toArray nn)]:=fun p hp=>N12 p (.tail _ hp)
  obtain⟨m14,F14,hm14⟩:∃m,Fr g L' _ m∧Has m [(Str.ofString "mode",.int b t),(Str.ofString "perm",.ref P),(Str.ofString "index",.int i ti)]:=⟨_,F12,⟨rfl,rfl,rfl,trivial⟩⟩
  clear F12 N12 nA
  have tab2:=tab
  intro clo_ m14 p_ F14 hm14
  refine KC F14 N13 (tab.keeps F14.keep).1 fun I h15 oI cI dI F15 N15 lt15=>?_
  clear F14 N13
  have ltPI:@LT.lt Nat _ P I:=lt15 (P,listOf us.toArray nn) (by simp)
  have ltei:@LT.lt Nat _ e I∧@LT.lt Nat _ it I:=⟨lt15 (e,enO .none it (i+1:Nat) (.ref T)) (by simp),lt15 (it,oT') (by simp)⟩
  intro clo_ I h15 oI p_ cI dI F15 N15 lt15 ltPI ltei
  refine⟨fun n m nw=>Ex2 fun(j:Nat) (oI:Obj)=>DJ (j+n=es.length) (oI.cls= .type "tuple_iterator") (oI.data= .fields #[.ref T,.int (j:Nat) 0]) (Has m [(Str.ofString "mode",.int b t),(Str.ofString "perm",.ref P),(Str.ofString "index",.int i ti)]) ((1≤i→∀e∈es.take j,¬Builtin.bitAnd b e.1=e.1)) (nw= [(I,oI),(e,enO .none it (i+1:Nat) (.ref T)),(it,oT'),(P,listOf us.toArray nn)]),es.length,_,_,F15,N15,?_,?_⟩
  ·exact⟨0,oI,Nat.zero_add _,cI,dI,hm14,fun _ x hx=>by simp at hx,rfl⟩
  clear F15 N15 hm14
  rintro n2 m16 nw16 h16 tk16 F16 N16 ⟨j,oI',hj,cI',dI',hm,miss,rfl⟩
  have F17:=hm.fr F16
  clear F16 hm
  have ltI:∀p∈ [(e,enO .none it (i+1:Nat) (.ref T)),(it,oT'),(P,listOf us.toArray nn)],p.1≠I:=fun p hp=>Nat.ne_of_lt (lt15 p hp)
  intro clo_ n2 m16 h16 tk16 j oI' p_ hj cI' dI' miss N16 F17
  refine J3 rfl F17 N16 cI' dI' (tab.keeps F17.keep).1 ltI ?_ ?_
  ·intro v hv h18 oJ cJ dJ F18 N18
   clear F17 N16
   dsimp only [EM]
   intro clo_ v p_ hv d_ h18 oJ p_ cJ dJ F18 N18
   obtain⟨r,rfl,hr⟩:∃r,v= .ref r∧rs[j]?=some r:=by
    simp at hv
    obtain⟨r,e1,e2⟩:=hv
    exact⟨r,e2.symm,e1⟩
   intro clo_ r p_ hr hv
   obtain⟨ent,tb,tc,hent,tupr⟩:=tab.2.2 j r hr
   intro clo_ ent tb tc p_ hent tupr
   refine JI (N18 _ (.head _)).1 cJ dJ ?_
   have tupr2:h18.IsTuple r #[.int ent.1 tb,.str ⟨#[ent.2]⟩ tc]:=by
    obtain⟨o,eo,rr⟩:=tupr
    exact⟨o,F18.keep _ _ eo,rr⟩
   clear hv tab tab2
   have je:j<es.length:=(List.getElem?_eq_some_iff.mp hent).1
   k_steps
   ·intro clo_ tk
    k_extra "03"
    rename Fr g L' _ _=>F20
    rename News g L' _ _=>N20
    refine ID F20.keep X' T' (show dp+1≤900 by exact Ar.up ‹_› (by rfl)) (show un+3≤9000 by exact Ar.up ‹_› (by rfl)) fun v t' tk h21 k21=>?_
    have F21:=F20.kept k21
    have N21:=N20.grown k21
    clear F20 N20
    have i0:¬1≤i:=by exact Ar.r249 hi ‹_›
    intro clo_ v t' tk h21 p_ k21 F21 N21
    k_steps
    ·k_extra "05a"
     k_extra "04R"
     exact AZ.intro (n':=n-1) F22 (fun p hp=>N22 p (.tail _ hp)) n1 ⟨i+1,_,ys++ [⟨#[ent.2]⟩],_,_,_,n2',c',d',sg.snoc (fun q=>absurd q i0),⟨rfl,rfl,trivial⟩,rfl⟩
    ·k_extra "05a"
     k_extra "04R"
     exact AZ.intro (n':=n2-1) F22 N22 (by exact Ar.cdCP ‹_› ‹_›) ⟨j+1,_,by exact Ar.cdC ‹_› ‹_›,cJ,dJ,⟨rfl,rfl,rfl,trivial⟩,fun q=>absurd q i0,rfl⟩
   ·k_extra "05a"
    k_extra "04R"
    rename Builtin.bitAnd _ _=_=>hit
    exact AZ.intro (n':=n-1) F22 (fun p hp=>N22 p (.tail _ hp)) n1 ⟨i+1,_,ys++ [⟨#[ent.2]⟩],_,_,_,n2',c',d',sg.snoc (fun q=>(Ju eT hent hit (miss q)).symm),⟨rfl,rfl,trivial⟩,rfl⟩
   ·k_extra "05a"
    k_extra "04R"
    rename Builtin.bitAnd _ _≠_=>hit
    exact AZ.intro (n':=n2-1) F22 N22 (by exact Ar.cdCP ‹_› ‹_›) ⟨j+1,_,by exact Ar.cdC ‹_› ‹_›,cJ,dJ,⟨rfl,rfl,rfl,trivial⟩,fun q x hx=>by
     rcases Ii hent hx with hx|rfl
     ·exact miss q x hx
     ·exact hit,rfl⟩
  ·intro hv h18 F18 N18
   clear F17 N16
   dsimp only [EM]
   have je:es.length≤j:=by
    have:=tab.2.1
    simp at hv
    exact this▸hv
   intro clo_ h18 p_ F18 N18
   k_steps
   ·k_extra "05a"
    k_extra "04R"
    have i0:¬1≤i:=by exact Ar.r249 hi ‹_›
    exact AZ.intro (n':=n-1) F22 (fun p hp=>N22 p hp) n1 ⟨i+1,_,ys++ [⟨#[63]⟩],_,_,_,n2',c',d',sg.snoc (fun q=>absurd q i0),⟨rfl,rfl,trivial⟩,rfl⟩
   ·k_extra "05a"
    k_extra "04R"
    have i1:1≤i:=by exact Ar.r177 hi ‹_›
    have ms:=miss i1
    rw [List.take_of_length_le je] at ms
    exact AZ.intro (n':=n-1) F22 (fun p hp=>N22 p hp) n1 ⟨i+1,_,ys++ [⟨#[45]⟩],_,_,_,n2',c',d',sg.snoc (fun q=>(Ip eT ms).symm),⟨rfl,rfl,trivial⟩,rfl⟩
 ·intro hx h10 F10 N10
  k_extra "04G"
  intro clo_ h10 p_ F10 N10
  k_steps
  rename Fr g L' _ _=>F12
  rename News g L' _ _=>N12
  have hi10:10≤i:=by simpa using hx
  have e10:i=10:=by exact Ar.r235 hi hi10
  subst e10
  refine join_list (ys:=ys) ⟨_,(N12 _ (.head _)).1,rfl,_,rfl⟩ (by simpa using sg.1) (sg.fits) fun t' k=>?_
  intro clo_ t' k
  k_steps
  rename Fr g L' _ _=>F12
  have sj:=sg.join
  exact hQ _ _ _ _ sj.1 sj.2 fun b o e=>F12.keep b o (keep b o e (by simp))
end
theorem kw_W28_e:True:=by
 k_with "oW28"=>skip
 trivial
end
noncomputable def Bn (x:Int):Int:=if x % 2=1 then x/2 % 4 else if(if x<0 then-x else x)<2^Int.toNat 40 then x else x.fmod (2^Int.toNat 40)
theorem H4 (x:Int):-1099511627776<Bn x∧Bn x<1099511627776:=by
 have e:(2:Int)^Int.toNat 40=1099511627776:=by decide
 unfold Bn
 rw [e]
 have f:x.fmod 1099511627776=x % 1099511627776:=Int.fmod_eq_emod_of_nonneg _ (by decide)
 rw [f]
 split
 ·exact⟨Int.lt_of_lt_of_le (by decide) (Int.emod_nonneg _ (by decide)),Int.lt_trans (Int.emod_lt_of_pos _ (by decide)) (by decide)⟩
 ·split
  ·split at* <;>(first|exact Ar.r22 ‹_›|exact Ar.r36 ‹_› ‹_› ‹_›)
  ·exact Ar.r1 ‹_› ‹_›
section
section
variable{w:World}{dp un:Nat}{fr:Option (List Env)}{gd:Option (List Code)}{s:Shared}{loose:List Str}{mz:ExcName→Option Value}{mg mb:Str→Option Value}{Q E:Value→Shared→Prop}{hb:Heap}
theorem Fs {x:Int}{t:Tok}(kb:hb.StaysIn s.heap)(X:(Mine.hd.heap_39 w.params).In hb)(T:Top Mine.hd.view_39 loose mz mg mb hb)
  (hd:dp≤700) (hu:un≤7000)
  (hQ:∀v' t' tk' h',s.heap.StaysIn h'→v'=Bn x→(v'=x∧t'=t∨s.toks≤t'∧t'<tk')→s.toks≤tk'→Q (.int v' t') {s with heap:=h',toks:=tk'}):
  wpAny (model PR w) (AR dp un fr gd) (call (.ref 367) [.int x t]) Q E s:=by
 revert w dp un fr gd s loose mz mg mb Q E hb x t
 as_aux_lemma=>
 intro pick_ w dp un fr gd s loose mz mg mb Q E hb x t
 intro kb X T hd hu hQ
 k_extra "0D"
 refine' Ag (binds:= [(Str.ofString "x",.int x t)]) [] kb X T ?m ?k6 ?k7 ?k8 ?k9 ?kB ?_ ?c2 ?c3 ?c4 ?c5
 k_extra "03D"
 k_extra "00"
 k_extra "0f"
 dsimp only
 k_extra "0g"
 obtain⟨tk0,e0⟩:∃q,q=s.toks+ [(Str.ofString "x",Value.int x t)].length:=⟨_,rfl⟩
 rw [←e0]
 have et:s.toks+1≤tk0:=Nat.le_of_eq e0.symm
 clear e0
 have hA:∀(v':Int) (t':Tok) h',s.heap.StaysIn h'→v'=Bn x→tk0≤t'+1→Q (.int v' t') {s with heap:=h',toks:=t'+1}:=fun v' t' h' k e l=>hQ v' t' (t'+1) h' k e (.inr ⟨by exact Nat.le_of_succ_le_succ (Nat.le_trans et l),Nat.lt_succ_self _⟩) (by exact Nat.le_trans (Nat.le_of_succ_le et) l)
 have hB:∀tk' h',s.heap.StaysIn h'→x=Bn x→tk0≤tk'→Q (.int x t) {s with heap:=h',toks:=tk'}:=fun tk' h' k e l=>hQ x t tk' h' k e (.inl ⟨rfl,rfl⟩) (by exact Nat.le_trans (Nat.le_of_succ_le et) l)
 intro clo_ tk0 p_ et hA hB
 refine Aj ?_
 k_steps
 intro clo_ tk p_ x_
 all_goals rename Fr _ _ _ _=>F9
 ·rename x % 2=1=>h1
  rename tk0≤_=>hle
  exact hA _ _ _ (fun b o e=>F9.keep b o (keep b o e (by simp))) (if_pos h1).symm hle
 ·rename x % 2≠1=>h1
  rename ite _ _ _<_=>h2
  rename tk0≤_=>hle
  exact hB _ _ (fun b o e=>F9.keep b o (keep b o e (by simp))) (((if_neg h1).trans (if_pos h2)).symm) hle
 ·rename x % 2≠1=>h1
  rename ¬ite _ _ _<_=>h2
  rename tk0≤_=>hle
  exact hA _ _ _ (fun b o e=>F9.keep b o (keep b o e (by simp))) (((if_neg h1).trans (if_neg h2)).symm) hle
end
end
noncomputable def Ac (p:Int×Nat×Nat):Prop:=p.2.1<64∧p.2.2<64
noncomputable def tk3 (p:Int×Nat×Nat):Int:=p.1*4096+((p.2.1:Int)*64+(p.2.2:Int))
theorem FB {p q:Int×Nat×Nat}(hp:Ac p)(hq:Ac q):AI [p.1,(p.2.1:Int),(p.2.2:Int)] [q.1,(q.2.1:Int),(q.2.2:Int)]=decide (tk3 p<tk3 q):=by
 obtain⟨p1,p2,p3⟩:=p
 obtain⟨q1,q2,q3⟩:=q
 unfold Ac at hp hq
 unfold tk3
 dsimp only at hp hq⊢
 simp only [AI]
 by_cases h1:p1=q1
 ·subst h1
  by_cases h2:(p2:Int)=q2
  ·by_cases h3:(p3:Int)=q3
   ·simp only [if_true,if_pos h2,if_pos h3]
    symm;rw [decide_eq_false_iff_not];exact h2▸h3▸Int.lt_irrefl _
   ·simp only [if_true,if_pos h2,if_neg h3]
    rw [decide_eq_decide];exact h2▸((Int.add_lt_add_iff_left _).trans (Int.add_lt_add_iff_left _)).symm
  ·simp only [if_true,if_neg h2]
   rw [decide_eq_decide];exact(Ar.lexI (by decide) (Ar.b6 hp.2) (Ar.b6 hq.2) h2).trans (Int.add_lt_add_iff_left _).symm
 ·rw [if_neg h1,decide_eq_decide];exact Ar.lexI (by decide) (Ar.b12 hp) (Ar.b12 hq) h1
noncomputable def GL (p:Int×Nat×Nat):Int×Nat×Nat:=if p.2.1<64∧p.2.2<64 then p else(0,0,0)
theorem GK (p:Int×Nat×Nat):Ac (GL p):=by
 unfold GL Ac
 split
 ·assumption
 ·decide
theorem HF {p:Int×Nat×Nat}(h:Ac p):GL p=p:=if_pos h
theorem Jo {p q:Int×Nat×Nat}(hp:Ac p)(hq:Ac q)(h:tk3 p≤tk3 q):p.1≤q.1:=by
 unfold Ac at hp hq
 unfold tk3 at h
 exact Ar.lexL (by decide) (Ar.b12 hq) h
noncomputable def AG (ns ms:List Int):List Int:=ns.flatMap fun x=>ms.map fun y=>x-y
noncomputable def pend (ns fl:List Int)(p:Int×Nat×Nat):List Int:=(fl.drop p.2.2).map fun y=>ns.getD p.2.1 0-y
structure BA (ns fl:List Int) (π:Addr→Int×Nat×Nat) (as:List Addr) (out:List Int):Prop where
 small:∀a,Ac (π a)
 heap:AW (fun a=>tk3 (π a)) 0 as
 fit:∀a∈as,(π a).2.1<ns.length∧(π a).2.2<fl.length∧(π a).1=ns.getD (π a).2.1 0-fl.getD (π a).2.2 0
 perm:(out++as.flatMap fun a=>pend ns fl (π a)).Perm (AG ns fl)
 sorted:out.Pairwise (· ≤ ·)
 low:∀x∈out,∀a∈as,∀y∈pend ns fl (π a),x≤y
theorem BA.lt {ns fl:List Int}{π:Addr→Int×Nat×Nat}{as:List Addr}{out:List Int}(T:BA ns fl π as out)(a b:Addr):AI [(π a).1,((π a).2.1:Int),((π a).2.2:Int)] [(π b).1,((π b).2.1:Int),((π b).2.2:Int)]=decide (tk3 (π a)<tk3 (π b)):=FB (T.small a) (T.small b)
theorem HU {fl:List Int}{i:Nat}(h:i<fl.length):fl.drop i=fl.getD i 0::fl.drop (i+1):=by
 rw [List.drop_eq_getElem_cons h]
 simp [h]
theorem Ek {ns fl:List Int}{d:Int}{k i:Nat}(h:i<fl.length):pend ns fl (d,k,i)=(ns.getD k 0-fl.getD i 0)::(fl.drop (i+1)).map fun y=>ns.getD k 0-y:=by
 unfold pend
 dsimp only
 rw [HU h,List.map_cons]
theorem Gp {ns fl:List Int}(hf:fl.Pairwise (· ≥ ·)){k i:Nat}{d:Int}(h:i<fl.length):∀y∈pend ns fl (d,k,i),ns.getD k 0-fl.getD i 0≤y:=fun y hy=>by
 have h2:(fl.drop i).Pairwise (· ≥ ·):=hf.sublist (List.drop_sublist i fl)
 rw [HU h] at h2
 rw [Ek h] at hy
 rcases List.mem_cons.mp hy with rfl|hy
 ·exact Int.le_refl _
 ·obtain⟨z,hz,rfl⟩:=List.mem_map.mp hy
  have:=(List.pairwise_cons.mp h2).1 z hz
  exact Ar.r213 this
theorem BA.least {ns fl:List Int}{π:Addr→Int×Nat×Nat}{as:List Addr}{out:List Int}(T:BA ns fl π as out)(hf:fl.Pairwise (· ≥ ·)):∀a∈as,∀y∈pend ns fl (π a),(π (as.getD 0 0)).1≤y:=fun a ha y hy=>by
 have h1:=Jo (T.small _) (T.small _) (Dy T.heap a ha)
 obtain⟨f1,f2,f3⟩:=T.fit a ha
 have:=Gp hf (k:=(π a).2.1) (d:=(π a).1) f2 y hy
 exact Ar.q353 h1 f3 this
theorem BA.step {ns fl:List Int}{π π':Addr→Int×Nat×Nat}{as as':List Addr}{out:List Int}{r:Addr}{rest:List Addr}(T:BA ns fl π as out)(hf:fl.Pairwise (· ≥ ·))(e:as=r::rest)
  (small:∀a,Ac (π' a)) (heap:AW (fun a=>tk3 (π' a)) 0 as') (fit:∀a∈as',(π' a).2.1<ns.length∧(π' a).2.2<fl.length∧(π' a).1=ns.getD (π' a).2.1 0-fl.getD (π' a).2.2 0)
  (pm:(as'.flatMap fun a=>pend ns fl (π' a)).Perm (((fl.drop ((π r).2.2+1)).map fun y=>ns.getD (π r).2.1 0-y)++rest.flatMap fun a=>pend ns fl (π a))):
  BA ns fl π' as' (out++ [(π r).1])∧out.length<(AG ns fl).length:=by
 have hr:r∈as:=by rw [e];exact .head _
 have e0:as.getD 0 0=r:=by rw [e];rfl
 have least:=T.least hf
 rw [e0] at least
 obtain⟨f1,f2,f3⟩:=T.fit r hr
 have pr:pend ns fl (π r)=(π r).1::(fl.drop ((π r).2.2+1)).map fun y=>ns.getD (π r).2.1 0-y:=by
  rw [f3]
  exact Ek (d:=(π r).1) f2
 have ea:(as.flatMap fun a=>pend ns fl (π a))=(π r).1::(((fl.drop ((π r).2.2+1)).map fun y=>ns.getD (π r).2.1 0-y)++rest.flatMap fun a=>pend ns fl (π a)):=by
  rw [e,List.flatMap_cons,pr];rfl
 have hp:=T.perm
 refine⟨⟨small,heap,fit,?_,?_,?_⟩,?_⟩
 ·rw [ea] at hp
  rw [List.append_assoc]
  exact((pm.cons _).append_left out).trans hp
 ·refine List.pairwise_append.mpr ⟨T.sorted,List.pairwise_singleton _ _,fun x hx y hy=>?_⟩
  obtain rfl:=List.mem_singleton.mp hy
  exact T.low x hx r hr _ (by rw [pr];exact .head _)
 ·intro x hx a ha y hy
  have hy2:y∈as.flatMap fun a=>pend ns fl (π a):=by
   rw [ea]
   exact .tail _ (pm.mem_iff.mp (List.mem_flatMap.mpr ⟨a,ha,hy⟩))
  obtain⟨c,hc,hy3⟩:=List.mem_flatMap.mp hy2
  rcases List.mem_append.mp hx with hx|hx
  ·exact T.low x hx c hc y hy3
  ·obtain rfl:=List.mem_singleton.mp hx
   exact least c hc y hy3
 ·have:=hp.length_eq
  rw [ea,List.length_append,List.length_cons] at this
  exact Ar.q47 this
theorem II {as:List Addr}(h:0<as.length):∃rest,as=as.getD 0 0::rest:=by
 cases as with
 |nil=>exact absurd h (Nat.lt_irrefl _)
 |cons a r=>exact⟨r,rfl⟩
theorem BA.replace {ns fl:List Int}{π:Addr→Int×Nat×Nat}{as:List Addr}{out:List Int}{b:Addr}(T:BA ns fl π as out)(hf:fl.Pairwise (· ≥ ·))(h0:0<as.length)(hb:b∉as)(hfl:fl.length<64)(hat:(π (as.getD 0 0)).2.2+1<fl.length):
  ∃π':Addr→Int×Nat×Nat,π' b=(ns.getD (π (as.getD 0 0)).2.1 0-fl.getD ((π (as.getD 0 0)).2.2+1) 0,(π (as.getD 0 0)).2.1,(π (as.getD 0 0)).2.2+1)∧(∀a∈as,π' a=π a)∧
   BA ns fl π' (siftup (fun x y=>AI [(π' x).1,((π' x).2.1:Int),((π' x).2.2:Int)] [(π' y).1,((π' y).2.1:Int),((π' y).2.2:Int)]) 0 (as.set 0 b)) (out++ [(π (as.getD 0 0)).1])∧out.length<(AG ns fl).length∧
   (siftup (fun x y=>AI [(π' x).1,((π' x).2.1:Int),((π' x).2.2:Int)] [(π' y).1,((π' y).2.1:Int),((π' y).2.2:Int)]) 0 (as.set 0 b)).Perm (as.set 0 b):=by
 obtain⟨rest,e⟩:=II h0
 generalize hr:as.getD 0 0=r at e hat⊢
 have hrm:r∈as:=by rw [e];exact .head _
 obtain⟨f1,f2,f3⟩:=T.fit r hrm
 have sm:Ac (ns.getD (π r).2.1 0-fl.getD ((π r).2.2+1) 0,(π r).2.1,(π r).2.2+1):=⟨(T.small r).1,show(π r).2.2+1<64 by exact Nat.lt_trans ‹_› ‹_›⟩
 have old:∀a∈as,(if a=b then(ns.getD (π r).2.1 0-fl.getD ((π r).2.2+1) 0,(π r).2.1,(π r).2.2+1) else π a)=π a:=fun a ha=>if_neg fun e=>hb (by rw [←e];exact ha)
 generalize hP:(fun a=>if a=b then(ns.getD (π r).2.1 0-fl.getD ((π r).2.2+1) 0,(π r).2.1,(π r).2.2+1) else π a)=π'
 have eb:π' b=(ns.getD (π r).2.1 0-fl.getD ((π r).2.2+1) 0,(π r).2.1,(π r).2.2+1):=by rw [←hP];exact if_pos rfl
 have eo:∀a∈as,π' a=π a:=fun a ha=>by rw [←hP];exact old a ha
 have small:∀a,Ac (π' a):=fun a=>by
  rw [←hP]
  dsimp only
  split
  ·exact sm
  ·exact T.small a
 have hh:AW (fun a=>tk3 (π' a)) 0 as:=fun i hi hp hq=>by
  have m1:as.getD ((i-1)/2) 0∈as:=AN (by exact Ar.par ‹_›)
  have m2:as.getD i 0∈as:=AN hi
  dsimp only
  rw [eo _ m1,eo _ m2]
  exact T.heap i hi hp hq
 obtain⟨H,P⟩:=Cq (K:=fun a=>tk3 (π' a)) (b:=b) (fun a c=>FB (small a) (small c)) h0 hh
 have es:as.set 0 b=b::rest:=by rw [e];rfl
 refine⟨π',eb,eo,?_⟩
 have hrest:∀a∈rest,a∈as:=fun a ha=>by rw [e];exact .tail _ ha
 have st:=T.step (π':=π') (as':=siftup (fun x y=>AI [(π' x).1,((π' x).2.1:Int),((π' x).2.2:Int)] [(π' y).1,((π' y).2.1:Int),((π' y).2.2:Int)]) 0 (as.set 0 b)) hf e small H ?_ ?_
 ·exact⟨st.1,st.2,P⟩
 ·intro a ha
  have:=P.mem_iff.mp ha
  rw [es] at this
  rcases List.mem_cons.mp this with rfl|h
  ·rw [eb]
   exact⟨f1,hat,rfl⟩
  ·rw [eo a (hrest a h)]
   exact T.fit a (hrest a h)
 ·refine(P.flatMap_right _).trans ?_
  rw [es,List.flatMap_cons,eb]
  have:(rest.flatMap fun a=>pend ns fl (π' a))=rest.flatMap fun a=>pend ns fl (π a):=by
   rw [List.flatMap_def,List.flatMap_def]
   exact congrArg List.flatten (List.map_congr_left fun a ha=>by rw [eo a (hrest a ha)])
  rw [this]
  exact .refl _
theorem BA.pop {ns fl:List Int}{π:Addr→Int×Nat×Nat}{p:List Addr}{b:Addr}{out:List Int}(T:BA ns fl π (p++ [b]) out)(hf:fl.Pairwise (· ≥ ·))(hat:¬(π ((p++ [b]).getD 0 0)).2.2+1<fl.length):
  BA ns fl π (if p= [] then [] else siftup (fun x y=>AI [(π x).1,((π x).2.1:Int),((π x).2.2:Int)] [(π y).1,((π y).2.1:Int),((π y).2.2:Int)]) 0 (p.set 0 b)) (out++ [(π ((p++ [b]).getD 0 0)).1])∧out.length<(AG ns fl).length∧
   (∀a∈(if p= [] then [] else siftup (fun x y=>AI [(π x).1,((π x).2.1:Int),((π x).2.2:Int)] [(π y).1,((π y).2.1:Int),((π y).2.2:Int)]) 0 (p.set 0 b)),a∈p++ [b]):=by
 have dn:∀r:Addr,¬(π r).2.2+1<fl.length→((fl.drop ((π r).2.2+1)).map fun y=>ns.getD (π r).2.1 0-y)= []:=fun r h=>by
  rw [List.drop_eq_nil_of_le (by exact Ar.q462 h)];rfl
 cases p with
 |nil=>
  rw [if_pos rfl]
  refine⟨(T.step hf rfl T.small (fun i hi=>absurd hi (Nat.not_lt_zero _)) (fun a ha=>by cases ha) ?_).1,(T.step (as':= []) hf rfl T.small (fun i hi=>absurd hi (Nat.not_lt_zero _)) (fun a ha=>by cases ha) ?_).2,fun a ha=>by cases ha⟩
  ·rw [dn b hat];exact .refl _
  ·rw [dn b hat];exact .refl _
 |cons r q=>
  rw [if_neg (by simp)]
  have hh:=G6 T.heap
  obtain⟨H,P⟩:=Cq (K:=fun a=>tk3 (π a)) (b:=b) (lt:=fun x y=>AI [(π x).1,((π x).2.1:Int),((π x).2.2:Int)] [(π y).1,((π y).2.1:Int),((π y).2.2:Int)]) (fun a c=>FB (T.small a) (T.small c)) (by simp) hh
  have sub:∀a∈siftup (fun x y=>AI [(π x).1,((π x).2.1:Int),((π x).2.2:Int)] [(π y).1,((π y).2.1:Int),((π y).2.2:Int)]) 0 ((r::q).set 0 b),a∈r::q++ [b]:=fun a ha=>by
   have:=P.mem_iff.mp ha
   rcases List.mem_cons.mp this with rfl|h
   ·simp
   ·simp [h]
  have st:=T.step (r:=r) (rest:=q++ [b]) (as':=siftup (fun x y=>AI [(π x).1,((π x).2.1:Int),((π x).2.2:Int)] [(π y).1,((π y).2.1:Int),((π y).2.2:Int)]) 0 ((r::q).set 0 b)) hf rfl T.small H (fun a ha=>T.fit a (sub a ha)) ?_
  ·exact⟨st.1,st.2,sub⟩
  ·rw [dn r hat,List.nil_append]
   exact(P.trans (List.perm_append_comm (l₁:= [b]) (l₂:=q))).flatMap_right _
theorem GE {ns ms fl:List Int}(h:fl.Perm ms):(AG ns fl).Perm (AG ns ms):=by
 unfold AG
 induction ns with
 |nil=>exact .refl _
 |cons x r ih=>
  rw [List.flatMap_cons,List.flatMap_cons]
  exact(h.map _).append ih
theorem BA.fin {ns ms:List Int}{π:Addr→Int×Nat×Nat}{out:List Int}(T:BA ns (srt ms).reverse π [] out):out=srt (AG ns ms):=by
 have:=T.perm
 rw [List.flatMap_nil,List.append_nil] at this
 exact Bk (this.trans (GE ((List.reverse_perm _).trans (Co ms)))) T.sorted
theorem EB (ms:List Int):(srt ms).reverse.Pairwise (· ≥ ·):=by
 rw [List.pairwise_reverse]
 exact Dh ms
theorem BA.start {ns fl:List Int}{π:Addr→Int×Nat×Nat}{as:List Addr}(hfl:0<fl.length)(hlen:as.length=ns.length)(hs:∀a,Ac (π a))(hv:∀(j:Nat) a,as[j]?=some a→π a=(ns.getD j 0-fl.getD 0 0,j,0)):
  BA ns fl π (AQ (fun a b=>AI [(π a).1,((π a).2.1:Int),((π a).2.2:Int)] [(π b).1,((π b).2.1:Int),((π b).2.2:Int)]) (as.length/2) as) []∧
   (AQ (fun a b=>AI [(π a).1,((π a).2.1:Int),((π a).2.2:Int)] [(π b).1,((π b).2.1:Int),((π b).2.2:Int)]) (as.length/2) as).Perm as:=by
 obtain⟨H,P⟩:=CI (K:=fun a=>tk3 (π a)) (lt:=fun a b=>AI [(π a).1,((π a).2.1:Int),((π a).2.2:Int)] [(π b).1,((π b).2.1:Int),((π b).2.2:Int)]) (fun a c=>FB (hs a) (hs c)) as
 refine⟨⟨hs,H,fun a ha=>?_,?_,.nil,fun x hx=>by cases hx⟩,P⟩
 ·obtain⟨j,hj⟩:=List.mem_iff_getElem?.mp (P.mem_iff.mp ha)
  rw [hv j a hj]
  exact⟨by rw [←hlen];exact(List.getElem?_eq_some_iff.mp hj).1,hfl,rfl⟩
 ·rw [List.nil_append]
  refine(P.flatMap_right _).trans ?_
  have e1:as.map (fun a=>pend ns fl (π a))=ns.map fun x=>fl.map fun y=>x-y:=by
   apply List.ext_getElem
   ·rw [List.length_map,List.length_map,hlen]
   ·intro j h1 h2
    rw [List.length_map] at h1 h2
    rw [List.getElem_map,List.getElem_map,hv j _ (List.getElem?_eq_getElem h1)]
    unfold pend
    simp [h2]
  unfold AG
  rw [List.flatMap_def,List.flatMap_def,e1]
noncomputable def BR (π:Addr→Int×Nat×Nat)(as:List Addr)(tl:List (Addr×Obj)):Prop:=∀a∈as,∃t u v,(a,({cls:=.type "tuple",data:=.seq #[.int (π a).1 t,.int ((π a).2.1:Int) u,.int ((π a).2.2:Int) v]}:Obj))∈tl
theorem BR.tup {π:Addr→Int×Nat×Nat}{as:List Addr}{tl:List (Addr×Obj)}{h:Heap}(x:BR π as tl)(k:∀q∈tl,h.get? q.1=some q.2):∀a∈as,Bc h a [(π a).1,((π a).2.1:Int),((π a).2.2:Int)]:=fun a ha=>by
 obtain⟨t,u,v,hm⟩:=x a ha
 exact⟨_,0,k _ hm,.cons _ _ (.cons _ _ (.cons _ _ .nil))⟩
noncomputable def HG (h:Heap)(a:Addr):Int×Nat×Nat:=match h.get? a with
 |some ⟨_,_,.seq xs _,_⟩=>match xs.toList with
  | [.int d _,.int k _,.int i _]=>(d,k.toNat,i.toNat)
  |_=>(0,0,0)
 |_=>(0,0,0)
theorem GW {ns:List Int}{z:Int}{as:List Addr}{tl:List (Addr×Obj)}{h:Heap}(hlen:as.length=ns.length)(h64:ns.length<64)(htl:∀(j:Nat) a,as[j]?=some a→∃t u v,(a,({cls:=.type "tuple",data:=.seq #[.int (ns.getD j 0-z) t,.int (j:Int) u,.int 0 v]}:Obj))∈tl)(k:∀q∈tl,h.get? q.1=some q.2):
  ∃π:Addr→Int×Nat×Nat,(∀a,Ac (π a))∧(∀(j:Nat) a,as[j]?=some a→π a=(ns.getD j 0-z,j,0))∧BR π as tl:=by
 have h0:∀(j:Nat) a,as[j]?=some a→GL (HG h a)=(ns.getD j 0-z,j,0):=fun j a e=>by
  obtain⟨t,u,v,hm⟩:=htl j a e
  have hj:=(List.getElem?_eq_some_iff.mp e).1
  have e1:HG h a=(ns.getD j 0-z,j,0):=by
   unfold HG
   rw [k _ hm]
   simp
  rw [e1,HF ⟨show j<64 by exact Nat.lt_trans hj (hlen▸h64),show(0:Nat)<64 by decide⟩]
 refine⟨fun a=>GL (HG h a),fun a=>GK _,h0,fun a ha=>?_⟩
 obtain⟨j,hj⟩:=List.mem_iff_getElem?.mp ha
 obtain⟨t,u,v,hm⟩:=htl j a hj
 dsimp only
 rw [h0 j a hj]
 exact⟨t,u,v,hm⟩
theorem BR.sub {π:Addr→Int×Nat×Nat}{as bs:List Addr}{tl:List (Addr×Obj)}(x:BR π as tl)(p:∀a∈bs,a∈as):BR π bs tl:=fun a ha=>x a (p a ha)
theorem BR.set {π π':Addr→Int×Nat×Nat}{as bs:List Addr}{tl:List (Addr×Obj)}{b:Addr}{d:Int}{k i:Nat}{t u v:Tok}(x:BR π as tl)(eb:π' b=(d,k,i))(eo:∀a∈as,π' a=π a)(P:bs.Perm (as.set 0 b)):
  BR π' bs ((b,({cls:=.type "tuple",data:=.seq #[.int d t,.int (k:Int) u,.int (i:Int) v]}:Obj))::tl):=fun a ha=>by
 rcases List.mem_or_eq_of_mem_set (P.mem_iff.mp ha) with ha|rfl
 ·rw [eo a ha]
  obtain⟨t',u',v',hm⟩:=x a ha
  exact⟨t',u',v',.tail _ hm⟩
 ·rw [eb]
  exact⟨t,u,v,.head _⟩
theorem Bo (ns fl:List Int):(AG ns fl).length=ns.length*fl.length:=by
 unfold AG
 induction ns with
 |nil=>simp
 |cons x r ih=>rw [List.flatMap_cons,List.length_append,ih,List.length_map,List.length_cons,Nat.succ_mul,Nat.add_comm]
theorem D0 {ns fl:List Int}(h1:ns.length≤9)(h2:fl.length≤9):(AG ns fl).length≤81:=by
 rw [Bo]
 exact Nat.mul_le_mul h1 h2
theorem BA.root {ns fl:List Int}{π:Addr→Int×Nat×Nat}{as:List Addr}{out:List Int}{tl:List (Addr×Obj)}(T:BA ns fl π as out)(htp:BR π as tl)(h0:0<as.length):
  ∃(kr ar:Nat) (t u v:Tok),(π (as.getD 0 0)).2.1=kr∧(π (as.getD 0 0)).2.2=ar∧kr<ns.length∧ar<fl.length∧(as.getD 0 0,({cls:=.type "tuple",data:=.seq #[.int (π (as.getD 0 0)).1 t,.int (kr:Int) u,.int (ar:Int) v]}:Obj))∈tl:=by
 have hm:as.getD 0 0∈as:=AN h0
 obtain⟨t,u,v,h⟩:=htp _ hm
 obtain⟨f1,f2,_⟩:=T.fit _ hm
 exact⟨_,_,t,u,v,rfl,rfl,f1,f2,h⟩
section
variable{prog:Program}{w:World}{A:Around}{E:Value→Shared→Prop}{s:Shared}{h₀:Heap}{L:Addr}{news:List (Addr×Obj)}
theorem Eu {value slice:PySem.Expr}{T:Addr}{xs:Array Value}{n:Nat}{k:Int}{u:Tok}{v:Value}{Q:Value→Shared→Prop}(N:News h₀ L s.heap news)(hm:(T,({cls:=.type "tuple",data:=.seq xs n}:Obj))∈news)(h0:0≤k)(hfit:k<2^63)(hx:xs[k.toNat]?=some v)(h:Q v s)
  (hs:subscripted slice false (.ref T) (.int k u)=operate [.ref T,.int k u] (getItem (.ref T) (.int k u)):=by with_unfolding_all rfl):
  wpAny (model prog w) A (subscriptTail value slice (.ref T) (.int k u)) Q E s:=by
 have ht:s.heap.IsTuple T xs:=⟨_,(N _ hm).1,rfl,n,rfl⟩
 have hn:k.toNat<xs.size:=(Array.getElem?_eq_some_iff.mp hx).1
 exact tail_any ht.typeIs slot_tuple_getitem.lookup (getItem_tuple ht (by exact Int.le_trans (by decide) h0) hfit (seqIndex_of h0 (by exact(Int.toNat_lt h0).mp hn)) hx h) hs
end
section
theorem kw_W30_1:True:=by
 k_with "ar"=>((fail_if_success k_extra "oW30");with_reducible first|assumption|exact Ne.symm ‹_›|exact Int.ofNat_lt.mpr ‹_›|exact Nat.zero_le _|exact Int.natCast_nonneg _|exact Ar.q49 ‹_›|exact Ar.r104 ‹_› ‹_› ‹_›|exact Ar.r134 ‹_› ‹_›|exact Ar.r156 ‹_› ‹_›)
 trivial
section
variable{w:World}{dp un:Nat}{fr:Option (List Env)}{gd:Option (List Code)}{s:Shared}{loose:List Str}{mz:ExcName→Option Value}{mg mb:Str→Option Value}{Q E:Value→Shared→Prop}{hb:Heap}
theorem kw_W30_2:True:=by
 k_with "Mexec Assign cons ListComp"=>((fail_if_success k_extra "oW30");refine Stop.at ?_)
 k_with "MpyIter ref"=>((fail_if_success k_extra "oW30");refine Stop.at ?_)
 k_with "Mcall builtin:list.append"=>((fail_if_success k_extra "oW30");refine Stop.at ?_)
 k_with "Mexec While Name cons nil"=>((fail_if_success k_extra "oW30");refine Stop.at ?_)
 trivial
theorem HO {α:Type}{x:α}{l r:List α}(h:x∈r):x∈l++r:=List.mem_append_right _ h
theorem kw_W30_3:True:=by
 k_with "Meval Name"=>((fail_if_success k_extra "oW30");((with_reducible show wpAny _ _ (eval (Expr.Name _ _) (compEnvC _ _ _ _)) _ _ _);(rename News _ _ _ _=>q_cN');(refine kcf_cell q_cN' (by rfl) (by first|exact .tail _ (.tail _ (HO mm2))|exact .tail _ (.tail _ (HO mm1))) (by assumption) ?_ (by rfl) (by rfl) (by decide))))
 k_with "MsubscriptTail"=>((fail_if_success k_extra "oW30");refine Stop.at ?_)
 k_with "Meval Name"=>((fail_if_success k_extra "oW30");((with_reducible show wpAny _ _ (eval (Expr.Name _ _) (compEnvC _ _ _ _)) _ _ _);refine Stop.at ?_))
 trivial
noncomputable abbrev He (x y z:Value):Obj:={cls:=.type "tuple",data:=.seq #[x,y,z]}
theorem J1 {d:Addr}{vs:List Value}{ns:List Int}{n:Nat}{tn:Tok}(kb:hb.StaysIn s.heap)(X:(Mine.hd.heap_39 w.params).In hb)(T:Top Mine.hd.view_39 loose mz mg mb hb)
  (hd:dp≤700) (hu:un≤7000) (hd1:s.heap.get? d=some (listOf vs.toArray n)) (hd0:hb.get? d=none) (hi:IntsAre vs ns) (hne:1≤ns.length) (h64:ns.length<64)
  (h:∀h' tk' R us c,h'.get? R=some (listOf us.toArray c)→IntsAre us (srt ns).reverse→s.heap.get? R=none→(∀b o,s.heap.get? b=some o→h'.get? b=some o)→Q (.ref R) {s with heap:=h',toks:=tk'}):
  wpAny (model PR w) (AR dp un fr gd) (call (.ref 313) [.int ns.length tn,.ref d]) Q E s:=by
 by_cases e:ns.length=1
 ·have:=JE (w:=w) (dp:=dp) (un:=un) (fr:=fr) (gd:=gd) (E:=E) (tn:=tn) kb X T hd hu hd1 hd0 hi e h
  rw [e]
  exact this
 ·exact JC kb X T hd hu hd1 hd0 hi (by exact Nat.lt_of_le_of_ne hne (Ne.symm e)) h64 h
theorem Ie {x I D T:Addr×Obj}{tl base:List (Addr×Obj)}(h:x∈I::D::((T::tl)++base)):x∈T::I::D::(tl++base):=
 Bj [1,2,0] 3 rfl h
theorem Hb {x p1 p2 p3 p4 p5 p6 p7:Addr×Obj}{tl:List (Addr×Obj)}(h:x∈p1::p2::p3::p4::p5::p6::p7::tl):x∈p1::p2::(tl++ [p3,p4,p5,p6,p7]):=by
 simp only [List.mem_cons,List.mem_append,List.not_mem_nil,or_false] at h⊢
 rcases h with h|h|h|h|h|h|h|h<;>simp [h]
theorem Hd {x p1 p2 p3 p4 p5 p6 p7 B r:Addr×Obj}{tl:List (Addr×Obj)}(h:x∈p1::p2::p3::p4::p5::p6::p7::B::tl):x∈B::r::p1::p2::p3::p4::p5::p6::p7::tl:=
 Bj [2,3,4,5,6,7,8,0] 9 rfl h
theorem CS {P:Addr×Obj→Prop}{p3 p4 p5 p6 p7:Addr×Obj}{tl:List (Addr×Obj)}(h:∀p∈ [p3,p4,p5,p6,p7],P p)(h2:∀p∈tl,P p):∀p∈p3::p4::p5::p6::p7::tl,P p:=fun p hp=>by
 have:p∈ [p3,p4,p5,p6,p7]++tl:=hp
 exact(List.mem_append.mp this).elim (h p) (h2 p)
theorem Hc {ns:List Int}{z:Int}{as:List Addr}{tl:List (Addr×Obj)}{T:Addr}{i:Nat}{t u v:Tok}(hlen:as.length=i)(htl:∀(j:Nat) (x:Addr),as[j]?=some x→∃t u v,(x,He (.int (ns.getD j 0-z) t) (.int (j:Int) u) (.int 0 v))∈tl):
  ∀(j:Nat) (x:Addr),(as++ [T])[j]?=some x→∃t' u' v',(x,He (.int (ns.getD j 0-z) t') (.int (j:Int) u') (.int 0 v'))∈(T,He (.int (ns.getD i 0-z) t) (.int (i:Int) u) (.int 0 v))::tl:=fun j x e=>by
 rcases Nat.lt_or_ge j i with q|q
 ·rw [List.getElem?_append_left (by exact Ar.rl ‹_› ‹_›)] at e
  obtain⟨t',u',v',hm⟩:=htl j x e
  exact⟨t',u',v',.tail _ hm⟩
 ·have hj:=(List.getElem?_eq_some_iff.mp e).1
  rw [List.length_append,List.length_singleton] at hj
  obtain rfl:j=i:=by exact Nat.le_antisymm (hlen▸Nat.le_of_lt_succ hj) q
  rw [List.getElem?_append_right (by exact Ar.rle' ‹_› ‹_›),hlen,Nat.sub_self] at e
  obtain rfl:T=x:=Option.some.inj e
  exact⟨t,u,v,.head _⟩
theorem law_walk {a b:Addr}{vs us:List Value}{ns ms:List Int}{n m:Nat}(kb:hb.StaysIn s.heap)(X:(Mine.hd.heap_39 w.params).In hb)(T:Top Mine.hd.view_39 loose mz mg mb hb)
  (hd:dp≤600) (hu:un≤6000) (ha1:s.heap.get? a=some (listOf vs.toArray n)) (ha0:hb.get? a=none) (hb1:s.heap.get? b=some (listOf us.toArray m)) (hb0:hb.get? b=none) (hab:a≠b) (hi:IntsAre vs ns) (hj:IntsAre us ms) (hn:1≤ns.length) (hn9:ns.length≤9) (hm:1≤ms.length) (hm9:ms.length≤9)
  (h:∀h' tk' R us c,h'.get? R=some (listOf us.toArray c)→IntsAre us (srt (AG ns ms))→s.heap.get? R=none→(∀b o,s.heap.get? b=some o→h'.get? b=some o)→Q (.ref R) {s with heap:=h',toks:=tk'}):
  wpAny (model PR w) (AR dp un fr gd) (call (.ref 372) [.ref a,.ref b]) Q E s:=by
 revert w dp un fr gd s loose mz mg mb Q E hb a b vs us ns ms n m
 as_aux_lemma=>
 intro pick_ w dp un fr gd s loose mz mg mb Q E hb a b vs us ns ms n m
 intro kb X T hd hu ha1 ha0 hb1 hb0 hab hi hj hn hn9 hm hm9 h
 k_extra "0D"
 refine' C0 (binds:= [(Str.ofString "ones",.ref a),(Str.ofString "others",.ref b)]) [(a,listOf vs.toArray n),(b,listOf us.toArray m)] kb X T ?m ?k6 ?k7 ?k8 ?k9 ?kB ?kD ?_ ?c2 ?c3 ?c4
 (case m=>intro q hq;cases hq with|head=>exact⟨ha1,ha0⟩|tail _ hq=>cases hq with|head=>exact⟨hb1,hb0⟩|tail _ hq=>cases hq)
 k_extra "0w"
 k_extra "0b"
 k_extra "02s"
 k_extra "01P"
 k_cells Y
 k_extra "015"
 dsimp only
 try k_fold
 intro clo_ oC1 oC2 p_ dC1 dC2 N
 k_steps
 k_extra "03"
 k_extra "0e"
 k_extra "0a"
 have el:us.length=ms.length:=AC hj
 try rw [el]
 refine J1 F5.keep X' T' (show dp+1≤700 by exact Ar.up ‹_› (by rfl)) (show un+3≤7000 by exact Ar.up ‹_› (by rfl)) (N5 (b,listOf us.toArray m) (by simp)).1 (N5 (b,listOf us.toArray m) (by simp)).2.2 hj hm (by exact Ar.upT ‹_› (by rfl)) fun h6 tk6 R fs c eR iR fR k6=>?_
 have F6:=F5.kept k6
 have N6:=Al F5 (N5.grown k6) fR eR
 clear F5 N5
 have lf:fs.length=ms.length:=by rw [AC iR,List.length_reverse,AY]
 intro clo_ h6 tk6 R fs c p_ eR iR fR k6 F6 N6 lf
 k_steps
 intro clo_ tk
 obtain⟨m7,c0,c1,hc0,hc1,F7,N7,hm7⟩:Ex3 fun m7 c0 c1=>C6 (c0.data= .cell (some (.ref a))) (c1.data= .cell (some (.ref R))) (Fr g L' _ m7) (News g L' _ [(R,listOf fs.toArray c),(L'+1+1,c1),(L'+1,c0),(a,listOf vs.toArray n),(b,listOf us.toArray m)]) (Has m7 []):=by
  k_extra "022"
  k_extra "01b"
  exact⟨_,_,_,by assumption,by assumption,F7,N7,trivial⟩
 intro clo_ m7 c0 c1 p_ hc0 hc1 F7 N7 hm7
 k_extra "03"
 k_extra "03o"
 k_steps
 k_extra "0S"
 k_extra "0C"
 k_extra "05b"
 k_extra "03"
 refine Bf F8 N8 R8 (Int.le_refl 0) (by exact Ar.z0) (by omega) fun I h9 F9 N9 l9=>?_
 clear F8 N8 R8
 k_extra "05o"
 k_extra "0T"
 intro g' D C h₁ tk₁ k1 k2 F10 N10 lD lC
 have N11:News g' C h₁ ((I,AJ (0:Nat) (ns.length-(0:Nat)) 1)::(D,rl [] 0)::([]++ [(R,listOf fs.toArray c),(L'+1+1,c1),(L'+1,c0),(a,listOf vs.toArray n),(b,listOf us.toArray m)])):=fun p hp=>N10 p (by
  simp only [List.mem_cons,List.not_mem_nil,or_false,List.nil_append] at hp⊢
  rcases hp with h|h|h|h|h|h|h<;>simp [h])
 k_extra "04m"
 refine⟨fun k mm nw=>Ex4 fun(i:Nat) (as:List Addr) (tl:List (Addr×Obj)) (cc:Nat)=>C6 (k+i=ns.length) (nw=(I,AJ i (ns.length-i) 1)::(D,rl as cc)::(tl++ [(R,listOf fs.toArray c),(L'+1+1,c1),(L'+1,c0),(a,listOf vs.toArray n),(b,listOf us.toArray m)])) (as.length=i) ((∀j x,as[j]?=some x→∃t u v,(x,He (.int (ns.getD j 0-(srt ms).reverse.getD 0 0) t) (.int (j:Nat) u) (.int 0 v))∈tl)) ((∀p∈tl,p.1≠I∧p.1≠D)),ns.length,_,_,F10,N11,?_,?_⟩
 ·exact⟨0,[],[],0,rfl,rfl,rfl,fun j x e=>by simp at e,fun p hp=>by simp at hp⟩
 have lz:∀p∈ [(R,listOf fs.toArray c),(L'+1+1,c1),(L'+1,c0),(a,listOf vs.toArray n),(b,listOf us.toArray m)],p.1≠D∧p.1≠I:=fun p hp=>⟨Nat.ne_of_lt (lD p (.tail _ hp)),Nat.ne_of_lt (l9 p hp)⟩
 have lID:@Ne Nat I D:=Nat.ne_of_lt (lD _ (.head _))
 clear F9 N9 F10 N10 N11 lD l9
 rintro k m₁ nw₁ h₂ tk₂ F₂ N₂ ⟨i,as,tl,cc,hk,rfl,hlen,htl,hne'⟩
 have hr:∀p∈(D,rl as cc)::(tl++ [(R,listOf fs.toArray c),(L'+1+1,c1),(L'+1,c0),(a,listOf vs.toArray n),(b,listOf us.toArray m)]),p.1≠I:=by
  intro p hp
  k_extra "02"
  ·exact Ne.symm lID
  ·k_extra "01z"
   ·exact(hne' p hp).1
   ·exact(lz p hp).2
 intro clo_ k m₁ h₂ tk₂ p_ F₂ d_ i as tl cc p_ hk hlen htl hne' N₂ hr
 refine BK rfl F₂ N₂ hr ?_ ?_
 ·k_extra "05w"
  k_extra "04Z"
  have hi9:i<ns.length:=by exact Ar.zlt ‹_›
  clear F₂ N₂
  k_extra "01m"
  k_extra "02A"
  k_extra "02k"
  k_extra "01t"
  clear F3 N3
  k_extra "05u"
  have el2:=AC hi
  k_extra "02x"
  k_steps
  k_extra "03"
  refine kcf_cell (c:=L'+1) (o:=c0) N4 rfl (by simp) hc0 ?_
  k_steps
  k_extra "03"
  refine FJ F4 rfl ?_ rfl rfl rfl
  refine Gw (d:=a) (n:=n) N4 (by simp) hi (by exact Ar.z0) (by exact Int.ofNat_lt.mpr ‹_›) (by exact Ar.r89 hn9 hk hlt) ?_
  k_steps
  k_extra "03"
  refine kcf_cell (c:=L'+1+1) (o:=c1) N4 rfl (by simp) hc1 ?_
  k_steps
  k_extra "03"
  refine Gw (d:=R) (n:=c) N4 (by simp) iR (by decide) (by rw [List.length_reverse,AY];exact Int.ofNat_lt.mpr hm) (by decide) ?_
  k_steps
  k_extra "03"
  refine FJ F4 rfl ?_ rfl rfl rfl
  k_steps
  k_extra "0G"
  k_extra "0x"
  rename _<_∧_<_∧AllLt _ _=>l6
  k_extra "03"
  have bD:∀p∈tl++ [(R,listOf fs.toArray c),(L'+1+1,c1),(L'+1,c0),(a,listOf vs.toArray n),(b,listOf us.toArray m)],p.1≠D:=fun p hp=>(List.mem_append.mp hp).elim (fun h=>(hne' p h).2) (fun h=>(lz p h).1)
  refine Eg F6 N6 (.tail (Nat.ne_of_gt l6.2.1) (.tail lID (.head bD))) (by exact Ar.r99 hn9 hk hlen hlt) fun h7 F7 N7=>?_
  rw [show(i:Int)+1=((i+1:Nat):Int) by exact Ar.zs,show(ns.length:Int)-i-1=ns.length-((i+1:Nat):Int) by exact Ar.zc] at N7
  k_extra "04H"
  refine AZ.intro F7 (fun p hp=>N7 p (Ie hp)) (n':=k-1) (by exact Ar.cdP ‹_› ‹_›) ⟨i+1,_,_::tl,cc+1,by exact Ar.cd ‹_› ‹_›,rfl,by rw [List.length_append,hlen];rfl,by exact Hc hlen htl,fun p hp=>?_⟩
  k_extra "05v"
  k_extra "02"
  ·exact⟨Nat.ne_of_gt l6.1,Nat.ne_of_gt l6.2.1⟩
  ·exact hne' p hp
 ·intro hge h3 F3 N3
  k_extra "04Z"
  k_extra "01m"
  refine⟨_,_,F3,N3,fun h4 tk4 F4 N4=>?_⟩
  k_extra "02x"
  obtain rfl:i=ns.length:=by exact Ar.zce ‹_› ‹_›
  have hbD:∀p∈ [(R,listOf fs.toArray c),(L'+1+1,c1),(L'+1,c0),(a,listOf vs.toArray n),(b,listOf us.toArray m)],p.1≠D:=fun p hp=>(lz p hp).1
  have htD:∀p∈tl,p.1≠D:=fun p hp=>(hne' p hp).2
  clear F₂ N₂ F3 N3 lz hr hne'
  k_steps
  k_extra "0G"
  k_extra "0x"
  k_extra "03"
  obtain⟨π,hs,hπ,htp⟩:=GW (z:=(srt ms).reverse.getD 0 0) hlen (by exact Ar.upT ‹_› (by rfl)) htl (fun q hq=>(N6 q (.tail _ (List.mem_append_left _ hq))).1)
  intro clo_ π p_ hs hπ htp
  refine Cw (fun a=> [(π a).1,((π a).2.1:Int),((π a).2.2:Int)]) (Fr.keep F6) X' T' (show dp+1≤700 by exact Ar.up ‹_› (by rfl)) (show un+3≤7000 by exact Ar.up ‹_› (by rfl)) (N6 _ (.head _)).1 (N6 _ (.head _)).2.2 (by exact Ar.upES ‹_› ‹_› (by rfl))
   (fun a ha=>⟨by obtain⟨t,u,v,hm⟩:=htp a ha;exact htD _ hm,htp.tup (fun q hq=>(N6 q (.tail _ (List.mem_append_left _ hq))).1) a ha⟩) fun h7 tk7 k7 e7=>?_
  k_extra "05t"
  obtain⟨F7,N7⟩:=after F6 N6 (.head fun p hp=>(List.mem_append.mp hp).elim (htD p) (hbD p)) k7 e7
  obtain⟨W0,P0⟩:=BA.start (fl:=(srt ms).reverse) (by rw [List.length_reverse,AY];exact hm) hlen hs hπ
  generalize AQ (fun a b=>AI [(π a).1,((π a).2.1:Int),((π a).2.2:Int)] [(π b).1,((π b).2.1:Int),((π b).2.2:Int)]) (as.length/2) as=bs at F7 N7 W0 P0
  have htp5:BR π bs tl:=htp.sub fun a ha=>P0.mem_iff.mp ha
  clear F6 N6 k7 e7 htp hπ hs htl hge hk
  intro clo_ bs p_ N7 W0 P0 htp5
  k_steps
  k_extra "0S"
  k_extra "0C"
  intro clo_ tk
  k_extra "03"
  obtain⟨m9,W,F9,N9,hm9,lW⟩:Ex2 fun mm W=>KR (Fr g L' _ mm) (News g L' _ ((W,listOf ([]:List Value).toArray 0)::(D,rl bs cc)::(tl++ [(R,listOf fs.toArray c),(L'+1+1,c1),(L'+1,c0),(a,listOf vs.toArray n),(b,listOf us.toArray m)]))) (Has mm [(Str.ofString "heads",.ref D),(Str.ofString "walk",.ref W)]) ((@LT.lt Nat _ D W∧AllLt W (tl++ [(R,listOf fs.toArray c),(L'+1+1,c1),(L'+1,c0),(a,listOf vs.toArray n),(b,listOf us.toArray m)]))):=⟨_,_,F8,N8,⟨rfl,rfl,trivial⟩,by assumption⟩
  clear F8 N8
  have lW2:=EJ lW.2
  have hbW:∀p∈ [(R,listOf fs.toArray c),(L'+1+1,c1),(L'+1,c0),(a,listOf vs.toArray n),(b,listOf us.toArray m)],p.1≠W:=fun p hp=>lW2 p (List.mem_append_right _ hp)
  have nWD:@Ne Nat W D:=Nat.ne_of_gt lW.1
  have lfl:(srt ms).reverse.length=ms.length:=by rw [List.length_reverse,AY]
  intro clo_ m9 W p_ F9 N9 hm9 lW lW2 hbW nWD
  refine CT (fun k m9 nw=>Ex7 fun(as:List Addr) (tl:List (Addr×Obj)) (π:Addr→Int×Nat×Nat) (out:List Int) (ws:List Value) (c3 c4:Nat)=>KQ (k+out.length=(AG ns (srt ms).reverse).length) (nw=(W,listOf ws.toArray c4)::(D,rl as c3)::((R,listOf fs.toArray c)::(L'+1+1,c1)::(L'+1,c0)::(a,listOf vs.toArray n)::(b,listOf us.toArray m)::tl)) (BA ns (srt ms).reverse π as out) (BR π as tl) (IntsAre ws out) ((∀p∈tl,p.1≠D)) ((∀p∈tl,p.1≠W)) (as.length≤9) (Has m9 [(Str.ofString "heads",.ref D),(Str.ofString "walk",.ref W)])) (n₀:=(AG ns (srt ms).reverse).length) F9 (fun p hp=>N9 p (Hb hp)) ⟨bs,tl,π,[],[],cc,0,rfl,rfl,W0,htp5,.nil,htD,fun p hp=>lW2 p (List.mem_append_left _ hp),by rw [P0.length_eq];exact Ar.upES ‹_› ‹_› (by rfl),hm9⟩ ?_
  clear F9 N9 hm9 lW lW2 W0 P0 htp5 htD hlen
  rintro k5 m₅ nw₅ h₅ tk₅ F₅ N₅ ⟨as,tl,π,out,ws,c3,c4,hk,rfl,Wl,htp,hws,hnD,hnW,h9',hm5⟩
  have F6:=hm5.fr F₅
  clear F₅ hm5
  have hout:=AC hws
  intro clo_ k5 m₅ h₅ tk₅ as tl π out ws c3 c4 p_ hk Wl htp hws hnD hnW h9' N₅ F6 hout
  by_cases e0:0<as.length
  ·obtain⟨kr,ar,t,u,v,eπk,eπa,hkr,har,hroot⟩:=Wl.root htp e0
   have N6:=Ds (a:=as.getD (Int.toNat 0) 0) N₅ (.tail _ (.tail _ (.tail _ (.tail _ (.tail _ (.tail _ (.tail _ hroot)))))))
   clear N₅
   have hsm:=D0 (ns:=ns) (fl:=(srt ms).reverse) hn9 (by exact Ar.upES ‹_› ‹_› (by rfl))
   intro clo_ kr ar t u v p_ eπk eπa hkr har hroot N6
   k_steps
   intro clo_ tk
   k_extra "03"
   refine Gg (d:=D) (n:=c3) N6 mm2 (by decide) (by exact Ar.q30 e0) (by decide) ?_
   k_steps
   k_extra "03"
   refine Eu (v:=.int kr u) N6 (.head _) (by decide) (by decide) rfl ?_
   k_steps
   k_extra "03"
   k_extra "01b"
   refine Gg (d:=D) (n:=c3) N7 mm2 (by decide) (by exact Ar.q30 e0) (by decide) ?_
   k_steps
   k_extra "03"
   refine Eu (v:=.int ar v) N7 (.head _) (by decide) (by decide) rfl ?_
   k_steps
   ·k_extra "0S"
    k_extra "0C"
    rename _<_∧_<_∧_<_∧_<_∧_<_∧_<_∧_<_∧_<_∧AllLt _ _=>l8
    rename (_:Int)<_=>hat
    intro clo_ tk p_ N8
    k_extra "03"
    have ek:((kr:Int)).toNat=kr:=Int.toNat_natCast _
    have ea:((ar:Int)+1).toNat=ar+1:=by exact rfl
    rw [ek,ea,show(ar:Int)+1=((ar+1:Nat):Int) by exact Ar.zs] at N8
    obtain⟨B,t1,t2,t3,rfl,N9,l9⟩:Ex4 fun B t1 t2 t3=>Ea (B=_) (News g L' _ ((B,He (.int (ns.getD kr 0-(srt ms).reverse.getD (ar+1) 0) t1) (.int (kr:Nat) t2) (.int ((ar+1:Nat):Int) t3))::(as.getD (Int.toNat 0) 0,He (.int (π (as.getD 0 0)).1 t) (.int (kr:Nat) u) (.int (ar:Nat) v))::(W,listOf ws.toArray c4)::(D,rl as c3)::(R,listOf fs.toArray c)::(L'+1+1,c1)::(L'+1,c0)::(a,listOf vs.toArray n)::(b,listOf us.toArray m)::tl)) ((@LT.lt Nat _ (as.getD (Int.toNat 0) 0) B∧@LT.lt Nat _ W B∧@LT.lt Nat _ D B∧@LT.lt Nat _ R B∧@LT.lt Nat _ (L'+1+1) B∧@LT.lt Nat _ (L'+1) B∧@LT.lt Nat _ a B∧@LT.lt Nat _ b B∧AllLt B tl)):=⟨_,_,_,_,rfl,N8,l8⟩
    have nBW:@Ne Nat B W:=Nat.ne_of_gt l9.2.1
    have nBD:@Ne Nat B D:=Nat.ne_of_gt l9.2.2.1
    have nBt:=EJ l9.2.2.2.2.2.2.2.2
    have hBas:B∉as:=fun hm=>by
     obtain⟨_,_,_,hm⟩:=htp _ hm
     exact nBt _ hm rfl
    intro clo_ B t1 t2 t3 p_ N9 l9 N8 l8 nBW nBD nBt hBas
    obtain⟨π',eb,eo,WR,hlt,PR⟩:=Wl.replace (EB ms) e0 hBas (by exact Ar.upESL ‹_› ‹_› (by rfl)) (by rw [eπa];exact Ar.q335 lfl har hat)
    rw [eπk,eπa] at eb
    clear N8 l8 l9
    intro clo_ π' p_ eb eo WR PR
    refine Bu (fun a=> [(π' a).1,((π' a).2.1:Int),((π' a).2.2:Int)]) (Fr.keep F8) X' T' (show dp+1≤700 by exact Ar.up ‹_› (by rfl)) (show un+3≤7000 by exact Ar.up ‹_› (by rfl)) (N9 (D,rl as c3) mm3).1 (N9 (D,rl as c3) mm3).2.2 e0 (by exact Ar.upS ‹_› (by rfl))
     (fun a ha=>⟨by obtain⟨t,u,v,hm⟩:=htp a ha;exact hnD _ hm,by rw [eo a ha];exact htp.tup (fun q hq=>(N9 q (.tail _ (.tail _ (.tail _ (.tail _ (.tail _ (.tail _ (.tail _ (.tail _ (.tail _ hq)))))))))).1) a ha⟩)
     ⟨nBD,by rw [eb];exact⟨_,0,(N9 _ (.head _)).1,.cons _ _ (.cons _ _ (.cons _ _ .nil))⟩⟩ fun h9 tk9 k9 e9=>?_
    intro clo_ h9 tk9 p_ k9 e9
    obtain⟨F10,N10⟩:=after F8 N9 (.tail nBD (.tail (hnD _ hroot) (.tail nWD (.head (CS hbD hnD))))) k9 e9
    have htpS:=htp.set (t:=t1) (u:=t2) (v:=t3) eb eo PR
    have hlS:(siftup (fun x y=>AI [(π' x).1,((π' x).2.1:Int),((π' x).2.2:Int)] [(π' y).1,((π' y).2.1:Int),((π' y).2.2:Int)]) 0 (as.set 0 B)).length≤9:=by rw [PR.length_eq,List.length_set];exact h9'
    clear F8 N9 k9 e9 PR
    generalize siftup (fun x y=>AI [(π' x).1,((π' x).2.1:Int),((π' x).2.2:Int)] [(π' y).1,((π' y).2.1:Int),((π' y).2.2:Int)]) 0 (as.set 0 B)=bs2 at N10 WR htpS hlS
    intro clo_ bs2 p_ N10 WR htpS hlS
    k_steps
    intro clo_ tk
    k_extra "03"
    k_extra "03S"
    refine Eu (v:=.int (π (as.getD 0 0)).1 t) N11 mm1 (by decide) (by decide) rfl ?_
    k_steps
    k_extra "03"
    rename Fr _ _ _ _=>F12
    rename News _ _ _ _=>N12
    refine AP F12 N12 (.tail nBW (.tail (hnW _ hroot) (.head (List.forall_mem_cons.mpr ⟨nWD.symm,CS hbW hnW⟩)))) (by exact Ar.q143 hk hout hsm hlt) fun h13 F13 N13=>?_
    clear F12 N12
    intro clo_ h13 p_ F13 N13
    k_steps
    rename Fr _ _ _ _=>F13
    k_extra "05n"
    intro clo_ tk
    refine AZ.intro F13 (fun p hp=>N13 p (Hd hp)) (n':=k5-1) (by exact Ar.cdP ‹_› ‹_›) ⟨bs2,_::tl,π',_,_,c3,c4+1,?_,rfl,WR,htpS,B8 hws _ _,List.forall_mem_cons.mpr ⟨nBD,hnD⟩,List.forall_mem_cons.mpr ⟨nBW,hnW⟩,hlS,⟨rfl,rfl,trivial⟩⟩
    rw [List.length_append,List.length_singleton]
    exact Ar.cd ‹_› ‹_›
   ·k_extra "0S"
    k_extra "0C"
    rename ¬(_:Int)<_=>hat
    intro clo_ tk
    k_extra "03"
    obtain⟨p,l,rfl⟩:Ex2 fun p l=>as=p++ [l]:=⟨as.dropLast,as.getLast (by intro e;subst e;exact absurd e0 (Nat.lt_irrefl _)),(List.dropLast_concat_getLast _).symm⟩
    intro clo_ p l p_ Wl htp h9' e0 eπk eπa hroot N8
    obtain⟨WP,hlt,sub⟩:=Wl.pop (EB ms) (by rw [eπa];exact fun q=>hat (Int.ofNat_lt.mpr q))
    have hpl:p.length≤8:=by rw [List.length_append,List.length_singleton] at h9';omega
    refine FH (fun a=> [(π a).1,((π a).2.1:Int),((π a).2.2:Int)]) (Fr.keep F8) X' T' (show dp+1≤700 by exact Ar.up ‹_› (by rfl)) (show un+3≤7000 by exact Ar.up ‹_› (by rfl)) (N8 (D,rl (p++ [l]) c3) mm2).1 (N8 (D,rl (p++ [l]) c3) mm2).2.2 (by exact Ar.upS ‹_› (by rfl))
     (fun a ha=>⟨by obtain⟨t,u,v,hm⟩:=htp a ha;exact hnD _ hm,htp.tup (fun q hq=>(N8 q (.tail _ (.tail _ (.tail _ (.tail _ (.tail _ (.tail _ (.tail _ (.tail _ hq))))))))).1) a ha⟩) fun h9 tk9 n9 k9 e9=>?_
    intro clo_ h9 tk9 n9 p_ k9 e9
    obtain⟨F10,N10⟩:=after F8 N8 (.tail (hnD _ hroot) (.tail nWD (.head (CS hbD hnD)))) k9 e9
    have htpS:=htp.sub sub
    have hlS:(if p= [] then [] else siftup (fun x y=>AI [(π x).1,((π x).2.1:Int),((π x).2.2:Int)] [(π y).1,((π y).2.1:Int),((π y).2.2:Int)]) 0 (p.set 0 l)).length≤9:=by
     split
     ·exact Nat.zero_le _
     ·rw [Bl,List.length_set];exact Ar.upS ‹_› (by rfl)
    clear F8 N8 k9 e9 sub
    generalize (if p= [] then [] else siftup (fun x y=>AI [(π x).1,((π x).2.1:Int),((π x).2.2:Int)] [(π y).1,((π y).2.1:Int),((π y).2.2:Int)]) 0 (p.set 0 l))=bs2 at N10 WP htpS hlS
    intro clo_ bs2 p_ N10 WP htpS hlS
    k_steps
    intro clo_ tk
    k_extra "03"
    k_extra "03S"
    refine Eu (v:=.int (π ((p++ [l]).getD 0 0)).1 t) N11 (.head _) (by decide) (by decide) rfl ?_
    k_steps
    k_extra "03"
    rename Fr _ _ _ _=>F12
    rename News _ _ _ _=>N12
    refine AP F12 N12 (.tail (hnW _ hroot) (.head (List.forall_mem_cons.mpr ⟨nWD.symm,CS hbW hnW⟩))) (by exact Ar.q143 hk hout hsm hlt) fun h13 F13 N13=>?_
    clear F12 N12
    intro clo_ h13 p_ F13 N13
    k_steps
    rename Fr _ _ _ _=>F13
    k_extra "05n"
    intro clo_ tk
    refine AZ.intro F13 (fun p hp=>N13 p (.tail _ hp)) (n':=k5-1) (by exact Ar.cdP ‹_› ‹_›) ⟨bs2,tl,π,_,_,n9,c4+1,?_,rfl,WP,htpS,B8 hws _ _,hnD,hnW,hlS,⟨rfl,rfl,trivial⟩⟩
    rw [List.length_append,List.length_singleton]
    exact Ar.cd ‹_› ‹_›
  ·k_steps
   dsimp only
   k_steps
   obtain rfl:as= []:=List.eq_nil_of_length_eq_zero (by exact Ar.q386 e0)
   have hfin:=Wl.fin
   subst hfin
   have q1:=N₅ _ mm5
   have q2:=N₅ _ mm6
   refine h _ _ _ _ _ (N₅ _ (.head _)).1 hws (Cf fun o eo=>?_) (Ax keep F6 (By ha1 hb1) (By q1.1 q2.1))
   have:=keep _ _ eo (fun q=>by
    simp only [List.map_cons,List.map_nil,List.mem_cons,List.not_mem_nil,or_false] at q
    rcases q with rfl|rfl
    ·exact hbW (_,listOf vs.toArray n) (by simp) rfl
    ·exact hbW (_,listOf us.toArray m) (by simp) rfl)
   rw [(N₅ _ (.head _)).2.2] at this
   cases this
end
theorem kw_W30_e:True:=by
 k_with "oW30"=>skip
 trivial
end
section
variable{A:Around}{s:Shared}
theorem EC (a:UInt64)(t:Tok)(n:Int)(u:Tok):SeqAt.EqAt A s (.float a t) (.int n u) (Float64.cmpInt a n==some Ordering.eq):=fun prog w E Q h=>by
 unfold eqBool
 refine wpAny_holding ?_
 refine wpAny_ite_split (fun hab=>absurd (eq_of_beq hab) nofun) (fun _=>?_)
 k_extra "03P"
 show wpAny _ _ (compareOp .Eq (.float a t) (.int n u)) _ _ _
 exact eq_fi (wpAny_truthy_bool h)
end
section
variable{prog:Program}{w:World}{A:Around}{E:Value→Shared→Prop}{s:Shared}{a b:Addr}{us vs:List Value}{ns:List Int}{Q:Value→Shared→Prop}
theorem Ez (ha:s.heap.IsList a us.toArray)(hb:s.heap.IsList b vs.toArray)(hk:AU us (ns.map fun x=>2*x))(hi:IntsAre vs ns)(hbd:∀x∈ns,(2*x).natAbs<2^53)(hu:A.units<cLine)(h:Q (.bool false) s):
  wpAny (model prog w) A (compareOp .NotEq (.ref a) (.ref b)) Q E s:=by
 have l1:us.length=ns.length:=by rw [hk.1,List.length_map]
 have l2:=AC hi
 refine cmp_ofNotEq (SeqAt.RcNeAt.lists (e:=fun _=>true) ha hb (by simp;omega) hu (fun j h1 h2=>?_) prog w E Q ?_)
 ·simp only [List.size_toArray] at h1 h2
  have hj:j<ns.length:=by exact Ar.rr ‹_› ‹_›
  obtain⟨t,e1⟩:=hk.2 j (2*ns[j]) (by rw [List.getElem?_map,List.getElem?_eq_getElem hj];rfl)
  obtain⟨u,e2⟩:=CH hi j hj
  have g1:us[j]= .float (hf (2*ns[j])) t:=by
   have:=List.getElem?_eq_getElem h1
   rw [e1] at this
   exact(Option.some.inj this).symm
  have g2:vs[j]= .int ns[j] u:=by
   have:=List.getElem?_eq_getElem h2
   rw [e2] at this
   exact(Option.some.inj this).symm
  simp only [List.getElem_toArray]
  rw [g1,g2]
  have:=EC (A:=A.in1) (s:=s) (hf (2*ns[j])) t ns[j] u
  rw [DF (hbd _ (List.getElem_mem hj)),decide_eq_true rfl] at this
  exact this
 ·have:(!(List.range us.toArray.size).all fun _=>true)=false:=by simp
  rw [this]
  exact h
end
section
theorem kw_W31_1:True:=by
 k_with "ar"=>((fail_if_success k_extra "oW31");with_reducible first|assumption|exact Ne.symm ‹_›|exact Int.ofNat_lt.mpr ‹_›|exact Nat.zero_le _|exact Int.natCast_nonneg _|exact Ar.q73 ‹_› ‹_› ‹_›|exact Ar.q76 ‹_› ‹_›|exact Ar.q81 ‹_› ‹_›|exact Ar.q120 ‹_› ‹_›|exact Ar.q229 ‹_›|exact Ar.q18 ‹_› ‹_›|exact Ar.r136 ‹_› ‹_›|exact Ar.r199 ‹_› ‹_› ‹_›)
 trivial
section
variable{w:World}{dp un:Nat}{fr:Option (List Env)}{gd:Option (List Code)}{s:Shared}{loose:List Str}{mz:ExcName→Option Value}{mg mb:Str→Option Value}{Q E:Value→Shared→Prop}{hb:Heap}
theorem kw_W31_2:True:=by
 k_with "Mcall ref"=>((fail_if_success k_extra "oW31");((with_reducible show wpAny _ _ (call (Value.ref 257) _ _) _ _ _);refine Stop.at ?_))
 k_with "Mcall ref"=>((fail_if_success k_extra "oW31");((with_reducible show wpAny _ _ (call (Value.ref 264) _ _) _ _ _);refine Stop.at ?_))
 k_with "Mcall ref"=>((fail_if_success k_extra "oW31");((with_reducible show wpAny _ _ (call (Value.ref 272) _ _) _ _ _);refine Stop.at ?_))
 k_with "Mcall ref cons"=>((fail_if_success k_extra "oW31");((with_reducible show wpAny _ _ (call (Value.ref 272) _ _) _ _ _);refine Stop.at ?_))
 k_with "McompareOp NotEq ref ref"=>((fail_if_success k_extra "oW31");refine Stop.at ?_)
 k_with "Meval ListComp"=>((fail_if_success k_extra "oW31");refine Stop.at ?_)
 k_with "MpyIter ref"=>((fail_if_success k_extra "oW31");refine Stop.at ?_)
 k_with "MpyNext ref"=>((fail_if_success k_extra "oW31");refine Stop.at ?_)
 k_with "Mcall builtin:list.append"=>((fail_if_success k_extra "oW31");refine Stop.at ?_)
 trivial
theorem E9 {a b d:Addr}{vs us ps:List Value}{ns ms:List Int}{n m p:Nat}(kb:hb.StaysIn s.heap)(X:(Mine.hd.heap_39 w.params).In hb)(T:Top Mine.hd.view_39 loose mz mg mb hb)
  (hd:dp≤500) (hu:un≤5000) (ha1:s.heap.get? a=some (listOf vs.toArray n)) (ha0:hb.get? a=none) (hb1:s.heap.get? b=some (listOf us.toArray m)) (hb0:hb.get? b=none) (hd1:s.heap.get? d=some (listOf ps.toArray p)) (hd0:hb.get? d=none) (hab:a≠b) (hda:d≠a) (hdb:d≠b)
  (hi:IntsAre vs ns) (hj:IntsAre us ms) (hp:IntsAre ps (AG ns ms)) (hn:1≤ns.length) (hn9:ns.length≤9) (hm:1≤ms.length) (hm9:ms.length≤9) (H:Nat) (hH:(AG ns ms).length=2*H) (hH1:1≤H) (h64:H<32) (hbd:∀x∈AG ns ms,x.natAbs<2^50)
  (h:∀h' tk' R us c,h'.get? R=some (listOf us.toArray c)→IntsAre us [0,(srt (AG ns ms)).getD (H-1) 0,(srt (AG ns ms)).getD H 0]→s.heap.get? R=none→(∀b o,s.heap.get? b=some o→h'.get? b=some o)→Q (.ref R) {s with heap:=h',toks:=tk'}):
  wpAny (model PR w) (AR dp un fr gd) (call (.ref 377) [.ref a,.ref b,.ref d]) Q E s:=by
 revert w dp un fr gd s loose mz mg mb Q E hb a b d vs us ps ns ms n m p H
 as_aux_lemma=>
 intro pick_ w dp un fr gd s loose mz mg mb Q E hb a b d vs us ps ns ms n m p
 intro kb X T hd hu ha1 ha0 hb1 hb0 hd1 hd0 hab hda hdb hi hj hp hn hn9 hm hm9
 intro pick_ H
 intro hH hH1 h64 hbd h
 k_extra "0D"
 refine' Ag (binds:= [(Str.ofString "ones",.ref a),(Str.ofString "others",.ref b),(Str.ofString "pairs",.ref d)]) [(a,listOf vs.toArray n),(b,listOf us.toArray m),(d,listOf ps.toArray p)] kb X T ?m ?k6 ?k7 ?k8 ?k9 ?kB ?_ ?c2 ?c3 ?c4 ?c5
 (case m=>intro q hq;cases hq with|head=>exact⟨ha1,ha0⟩|tail _ hq=>cases hq with|head=>exact⟨hb1,hb0⟩|tail _ hq=>cases hq with|head=>exact⟨hd1,hd0⟩|tail _ hq=>cases hq)
 k_extra "00"
 k_extra "0f"
 dsimp only
 k_extra "0g"
 k_fold
 k_steps
 k_extra "0e"
 k_extra "0a"
 intro clo_ tk
 k_extra "03"
 refine law_walk (Fr.keep F5) X' T' (show dp+1≤600 by exact Ar.up ‹_› (by rfl)) (show un+3≤6000 by exact Ar.up ‹_› (by rfl)) (N5 (a,listOf vs.toArray n) (by simp)).1 (N5 (a,listOf vs.toArray n) (by simp)).2.2 (N5 (b,listOf us.toArray m) (by simp)).1 (N5 (b,listOf us.toArray m) (by simp)).2.2 hab hi hj hn hn9 hm hm9 fun h6 tk6 W ws cw eW iW fW k6=>?_
 have F6:=F5.kept k6
 have N6:=Al F5 (N5.grown k6) fW eW
 have nW:∀q∈ [(a,listOf vs.toArray n),(b,listOf us.toArray m),(d,listOf ps.toArray p)],q.1≠W:=fun q hq e=>by
  have:=(N5 q hq).1
  rw [e,fW] at this
  cases this
 clear F5 N5 k6 eW fW
 have lp:=AC hp
 have lw:=AC iW
 have ls:=AY (AG ns ms)
 generalize hG:AG ns ms=G at*
 intro clo_ h6 tk6 W ws cw p_ F6 N6 nW d_ G p_ hG hp hH hbd h iW lp lw ls
 k_steps
 intro clo_ tk
 k_extra "03"
 refine ke_ne_ints (by is_list) (by is_list) (by l_ints) (by l_ints) (by ke_room) ?_
 k_steps
 rotate_left
 ·exfalso
  rename List.Perm _ G=>p6
  k_extra "03R"
  rename ¬_=_=>hx
  exact hx (Bk p6 o6).symm
 k_extra "022"
 k_extra "01b"
 rename srt G=_=>ex
 subst ex
 have eh:(G.length:Int)/2=(H:Nat):=by exact Ar.r98 hH
 rw [eh] at F7
 k_extra "03"
 refine Fh (Fr.keep F7) X' T' (show dp+1≤700 by exact Ar.up ‹_› (by rfl)) (show un+3≤7000 by exact Ar.up ‹_› (by rfl)) (N7 (d,listOf ps.toArray p) (by simp)).1 (N7 (d,listOf ps.toArray p) (by simp)).2.2 hp (by exact Ar.q250 hH1 hH) (by exact Ar.q18 h64 hH) hbd fun h8 tk8 R8 us8 c8 e8 i8 f8 k8=>?_
 have F8:=F7.kept k8
 have N8:=Al F7 (N7.grown k8) f8 e8
 clear F7 N7 k8 f8 e8
 have hbS:∀x∈srt G,(2*x).natAbs<2^53:=fun x hx=>by have:=hbd x (HJ.mp hx);exact Ar.dbl ‹_› (by rfl)
 intro clo_ h8 tk8 R8 us8 c8 p_ i8 F8 N8
 k_steps
 k_extra "03"
 refine Ez ⟨_,(N8 _ (.head _)).1,rfl,c8,rfl⟩ ⟨_,(N8 (W,listOf ws.toArray cw) (by simp)).1,rfl,cw,rfl⟩ i8 iW hbS (by show un+3<9900;exact Ar.upA ‹_› (by rfl)) ?_
 k_steps
 k_extra "01X"
 k_extra "01p"
 k_extra "03"
 refine DP (Fr.keep F9) X' T' (show dp+1≤700 by exact Ar.up ‹_› (by rfl)) (show un+3≤7000 by exact Ar.up ‹_› (by rfl)) (N9 (d,listOf ps.toArray p) (by simp)).1 (N9 (d,listOf ps.toArray p) (by simp)).2.2 hp (by exact Ar.q225 hH1 hH) (by exact Ar.q18 h64 hH) fun h10 tk10 t10 k10=>?_
 rw [show(G.length-1)/2=Int.toNat ((H:Int)-1) by exact Ar.q39 hH1 hH]
 have F10:=F9.kept k10
 have N10:News g L' h10 [(W,listOf ws.toArray cw),(a,listOf vs.toArray n),(b,listOf us.toArray m),(d,listOf ps.toArray p)]:=fun q hq=>N9.grown k10 q (by simp only [List.mem_cons,List.not_mem_nil,or_false] at hq⊢;rcases hq with h|h|h|h<;>simp [h])
 clear F9 N9 k10
 intro clo_ h10 tk10 t10 p_ F10 N10
 k_steps
 k_extra "05m"
 k_extra "03S"
 k_extra "03"
 refine Cu (Fr.keep F11) X' T' (show dp+1≤700 by exact Ar.up ‹_› (by rfl)) (show un+3≤7000 by exact Ar.up ‹_› (by rfl)) (N11 (d,listOf ps.toArray p) (by simp)).1 (N11 (d,listOf ps.toArray p) (by simp)).2.2 hp (by exact Ar.q225 hH1 hH) (by exact Ar.q18 h64 hH) fun h12 tk12 t12 k12=>?_
 rw [show G.length/2=Int.toNat (H:Int) by exact Int.ofNat.inj eh]
 have F12:=F11.kept k12
 have N12:=N11.grown k12
 clear F11 N11 k12
 intro clo_ h12 tk12 t12 p_ F12 N12
 k_steps
 rename Fr _ _ _ _=>F13
 k_extra "05n"
 k_extra "03"
 refine Jh F13 rfl (by decide) rfl (by decide) ?_
 k_steps
 rename Fr _ _ _ _=>F14
 rename News _ _ _ _=>N14
 k_extra "03"
 refine Fi (Fr.keep F14) X' T' (show dp+1≤700 by exact Ar.up ‹_› (by rfl)) (show un+3≤7000 by exact Ar.up ‹_› (by rfl)) (N14 (d,listOf ps.toArray p) (by simp)).1 (N14 (d,listOf ps.toArray p) (by simp)).2.2 hp (by exact Ar.q250 hH1 hH) (by exact Ar.r151 hH eh) (by exact Ar.q18 h64 hH) hbd fun h15 tk15 R15 us15 c15 e15 i15 f15 k15=>?_
 have F15:=F14.kept k15
 have N15:=Al F14 (N14.grown k15) f15 e15
 clear F14 N14 k15 f15 e15
 rw [show G.length/2=H by omega] at i15
 generalize hS:(srt G).getD (H-1) 0+(srt G).getD H 0=S at i15
 intro clo_ h15 tk15 R15 us15 c15 p_ F15 N15 d_ S p_ hS i15
 obtain⟨t15,rfl⟩:∃t,us15= [.float (hf S) t]:=by
  obtain⟨t,e⟩:=i15.2 0 S rfl
  have l1:us15.length=1:=i15.1
  exact⟨t,lsC (P:=fun us=>us[0]?=some _→us= [_]) (fun v=>lsN fun e=>congrArg (fun z=> [z]) (Option.some.inj e)) us15 l1 e⟩
 clear i15
 intro clo_ t15 p_ N15
 k_steps
 k_extra "03"
 refine Ad F15 N15 ⟨_,(N15 _ (.head _)).1,rfl,c15,rfl⟩ fun I2 h9 F9 N9 l9=>?_
 k_extra "04I"
 refine⟨fun s' hs' Q E hQ=>wpAny_pyIter_listiter (l:=R15) (i:=0) ⟨_,hs' _ _ (N9 _ (.head _)).1,rfl,rfl⟩ hQ,_,F9,N9,?_⟩
 intro g2 D2 C h₁ tk₁ k1 k2 F10 N10 lD lC
 have N11:News g2 C h₁ ((I2,{cls:=.type "list_iterator",data:=.fields #[.ref R15,.int 0 0]})::(D2,listOf ([]:List Value).toArray 0):: [(R15,listOf #[.float (hf S) t15] c15),(W,listOf ws.toArray cw),(a,listOf vs.toArray n),(b,listOf us.toArray m),(d,listOf ps.toArray p)]):=fun p hp=>by
  k_extra "02"
  ·exact N10 _ mm1
  k_extra "02"
  ·exact N10 _ (.head _)
  ·exact N10 _ (.tail _ (.tail _ hp))
 k_extra "04g"
 refine⟨fun k mm nw=>∃(i:Nat) (zs:List Value) (oK:Obj) (cc:Nat),k+i=1∧nw=(I2,oK)::(D2,listOf zs.toArray cc):: [(R15,listOf #[.float (hf S) t15] c15),(W,listOf ws.toArray cw),(a,listOf vs.toArray n),(b,listOf us.toArray m),(d,listOf ps.toArray p)]∧oK.cls= .type "list_iterator"∧oK.data= .fields #[.ref R15,.int (i:Nat) 0]∧zs.length=i∧(∀j,j<i→∃t,zs[j]?=some (.float (hf (2* [S].getD j 0)) t)),1,_,_,F10,N11,⟨0,[],_,0,rfl,rfl,rfl,rfl,rfl,fun j hj=>absurd hj (Nat.not_lt_zero _)⟩,?_⟩
 have neI2:∀q∈ [(R15,listOf #[.float (hf S) t15] c15),(W,listOf ws.toArray cw),(a,listOf vs.toArray n),(b,listOf us.toArray m),(d,listOf ps.toArray p)],q.1≠I2:=fun q hq=>Nat.ne_of_lt (l9 q hq)
 have neD2:∀q∈ [(R15,listOf #[.float (hf S) t15] c15),(W,listOf ws.toArray cw),(a,listOf vs.toArray n),(b,listOf us.toArray m),(d,listOf ps.toArray p)],q.1≠D2:=fun q hq=>Nat.ne_of_lt (lD q (.tail _ hq))
 k_extra "02V"
 have hS2:S.natAbs<2^52:=by rw [←hS];exact FZ hbd (H-1) H
 have em:Float64.mul (Float64.ofInt 2) (hf S)=hf (2*S):=Gr (by decide) (by decide) (by exact Ar.upLL ‹_› (by rfl)) (by exact Ar.dbl ‹_› (by rfl))
 clear F9 N9 F10 N10 N11 lD l9 k2
 rintro k2' m₁ nw₁ h₂ tk₂ F₂ N₂ ⟨i,zs,oK,cd,hk2,rfl,cK,dK,hul,hz⟩
 intro clo_ k2' m₁ h₂ tk₂ p_ F₂ d_ i zs oK cd p_ hk2 N₂ cK dK hul hz
 refine Ao rfl F₂ N₂ cK dK ⟨_,(N₂ _ mm2).1,rfl,c15,rfl⟩ (List.forall_mem_cons.mpr ⟨nID2.symm,neI2⟩) ?_ ?_
 ·intro x hx h3 oJ' cJ' dJ' F3 N3
  k_extra "04Z"
  intro clo_ x p_ hx d_ h3 oJ' p_ cJ' dJ' F3 N3
  obtain rfl:i=0:=by have:=(List.getElem?_eq_some_iff.mp hx).1;simp at this;exact this
  obtain rfl:Value.float (hf S) t15=x:=Option.some.inj hx
  clear F₂ N₂
  k_steps
  k_extra "03"
  k_extra "0G"
  k_extra "0x"
  rw [em]
  refine AP F6 N6 (.tail nID2 (.head neD2)) (by exact Ar.upE ‹_› (by rfl)) fun h7 F7 N7=>?_
  exact AZ.intro F7 N7 (n':=0) (by exact Nat.lt_of_lt_of_le Nat.one_pos (Nat.le_of_eq hk2.symm)) ⟨1,_,oJ',cd+1,rfl,rfl,cJ',dJ',by rw [List.length_append,hul];rfl,Cb (f:=fun j=>2* [S].getD j 0) hul hz⟩
 ·intro ha h3 F3 N3
  k_extra "04Z"
  k_extra "01m"
  obtain rfl:i=1:=by have:=List.getElem?_eq_none_iff.mp ha;simp at this;exact Ar.ce ‹_› ‹_›
  refine⟨_,_,F3,N3,fun h4 F4 N4=>?_⟩
  clear F₂ N₂ F3 N3
  have hz1:AU zs ([S].map fun x=>2*x):=⟨hul,fun j k e=>by
   exact Cz (P:=fun j k=>∃t,zs[j]?=some (Value.float (hf k) t)) (hz 0 (by decide)) IH j k e⟩
  k_extra "03L"
  k_steps
  k_extra "03"
  k_extra "0e"
  k_extra "0a"
  have eS:(srt G).getD (Int.toNat ((H:Int)-1)) 0+(srt G).getD (Int.toNat (H:Int)) 0=S:=by
   rw [←hS,show Int.toNat ((H:Int)-1)=H-1 by exact Ar.tn1,Int.toNat_natCast]
  rw [eS] at N5
  refine Ez ⟨_,(N5 _ mm1).1,rfl,cd,rfl⟩ ⟨_,(N5 _ (.head _)).1,rfl,0,rfl⟩ hz1 (.cons S _ .nil) (fun x hx=>by obtain rfl:=List.mem_singleton.mp hx;exact Ar.dbl ‹_› (by rfl)) (by show un+3<9900;exact Ar.upA ‹_› (by rfl)) ?_
  k_steps
  k_extra "0G"
  k_extra "0x"
  rename _<_∧_<_∧_<_∧_<_∧_<_∧_<_∧_<_=>l6
  rw [show Int.toNat ((H:Int)-1)=H-1 by exact Ar.tn1,Int.toNat_natCast] at N6
  exact h _ _ _ [_,_,_] 0 (N6 _ (.head _)).1 (.cons _ _ (.cons _ _ (.cons _ _ .nil))) (BF (fs:= []) keep KtsTurn.refl (N6 _ (.head _)).2.2 (List.forall_mem_cons.mpr ⟨l6.2.2.2.2.1,By l6.2.2.2.2.2.1 l6.2.2.2.2.2.2⟩))
   (Ax keep F6 (List.forall_mem_cons.mpr ⟨ha1,By hb1 hd1⟩) (List.forall_mem_cons.mpr ⟨(N6 (a,listOf vs.toArray n) (by simp)).1,By (N6 (b,listOf us.toArray m) (by simp)).1 (N6 (d,listOf ps.toArray p) (by simp)).1⟩))
end
theorem kw_W31_e:True:=by
 k_with "oW31"=>skip
 trivial
end
section
variable{prog:Program}{w:World}{A:Around}{E:Value→Shared→Prop}{s:Shared}{env:Env}{g:Heap}{L:Addr}{m:Str→Option Value}
noncomputable def BI (prog:Program)(w:World)(A:Around)(scope:Scope)(env:Env)(cl:List (Str×Addr))(exOf:Addr→List (Addr×Obj))(clOf:Addr→List (Str×Addr)):Prop:=
 ∀(s:Shared) (E:Value→Shared→Prop) (Q:Env→Shared→Prop),
  (∀h₁,h₁.Ns s.heap.objs.size (fun _=>none)→(∀b o,s.heap.get? b=some o→h₁.get? b=some o)→(∀p∈exOf s.heap.objs.size,h₁.get? p.1=some p.2∧s.heap.objs.size<p.1)→
   Q {scope:=scope,locals:=s.heap.objs.size,globals:=env.globals,cells:=clOf s.heap.objs.size,qual:=env.qual,func:=none,code:=env.code,frame:=env.frame,builtins:=env.builtins} {s with heap:=h₁})→
  wpAny (model prog w) A (newFunctionEnv scope env.globals cl [] env.qual none .none (some env)) Q E s
theorem BI.plain {scope:Scope}{cl:List (Str×Addr)}(hcell:∀y∈scope.names,y.2≠.cell)(hkind:scope.kind= .function):BI prog w A scope env cl (fun _=> []) (fun _=>cl):=fun s E Q h=>by
 refine wpAny_newFunctionEnv hcell (by intro y hy;simp at hy) (fun h₁ hns hsb=>?_) hkind
 exact h h₁ hns (fun b o e=>hsb.extBut b o (Nat.ne_of_lt (Heap.lt_size e)) (Heap.get?_push_of_some _ e)) (fun p hp=>by cases hp)
theorem BI.cell {scope:Scope}{cl:List (Str×Addr)}{y:Str}(hp:∀h,pushCells h scope.names=h.push {cls:=.type "cell",data:=.cell none})(hc:∀n,cellsFrom n scope.names cl=(y,n)::cl):
  BI prog w A scope env cl (fun C=> [(C+1,{cls:=.type "cell",data:=.cell none})]) (fun C=>(y,C+1)::cl):=fun s E Q h=>by
 simp only [newFunctionEnv,Option.isSome_some,if_true]
 refine wpAny_bind (wpAny_alloc ?_)
 refine wpAny_bind (wpAny_layCells _ (fun name kind cells=>by cases hkc:kind==NameKind.cell<;>simp) _ _ _ _ ?_)
 rw [hp,hc,List.forIn_nil]
 refine wpAny_bind (wpAny_pure (wpAny_pure ?_))
 have hsz:(s.heap.push {cls:=.type "dict",data:=.dict #[]}).objs.size=s.heap.objs.size+1:=Heap.size_push ..
 have:=h ((s.heap.push {cls:=.type "dict",data:=.dict #[]}).push {cls:=.type "cell",data:=.cell none}) ((Heap.Ns.new s.heap (.type "dict")).keeps fun b o e=>Heap.get?_push_of_some _ e)
  (fun b o e=>Heap.get?_push_of_some _ (Heap.get?_push_of_some _ e)) (fun p hp=>by
   obtain rfl:=List.mem_singleton.mp hp
   refine⟨?_,Nat.lt_succ_self _⟩
   dsimp only
   rw [←hsz]
   exact Heap.get?_push_size _ rfl)
 dsimp only at this⊢
 rw [hsz]
 exact this
inductive Dg (prog:Program) (w:World) (A:Around) (g:Heap) (L:Addr) (m:Str→Option Value) (env:Env) (elt:PySem.Expr) (gens:List Comprehension) (scope:Scope) (pos:Pos) (exOf:Addr→List (Addr×Obj)) (clOf:Addr→List (Str×Addr)) (K:List (Addr×Obj)→Addr→Shared→Prop) (it:Value) (s₂:Shared):Prop
 |mk (news:List (Addr×Obj)) (_:Fr g L s₂.heap m) (_:News g L s₂.heap news) (_:∀g' D C h₁,(∀b o,g.get? b=some o→g'.get? b=some o)→(∀b o,s₂.heap.get? b=some o→b∉news.map (·.1)→g'.get? b=some o)→
  Fr g' C h₁ (fun _=>none)→News g' C h₁ ((D,listOf #[] 0)::(exOf C++news))→(∀p∈news,p.1<D)→D<C→(∀p∈exOf C,C<p.1)→
  codeAny (model prog w) A (.compLoop (.ListComp elt gens scope pos) 0 it (.ref D) (compEnvC scope (clOf C) C env)) (fun r s'=>r= .ok .next∧∃m' nw',Fr g' C s'.heap m'∧News g' C s'.heap nw'∧K nw' D s') {s₂ with heap:=h₁}):Dg prog w A g L m env elt gens scope pos exOf clOf K it s₂
theorem DS {elt target iter:PySem.Expr}{ifs:List PySem.Expr}{rest:List Comprehension}{scope:Scope}{cl:List (Str×Addr)}{pos:Pos}{it:Value}{exOf:Addr→List (Addr×Obj)}{clOf:Addr→List (Str×Addr)}{K:List (Addr×Obj)→Addr→Shared→Prop}{RR:Value→Addr→Result→Shared→Prop}
  (lay:BI prog w A scope env cl exOf clOf)
  (hit:∀s':Shared,(∀b o,s.heap.get? b=some o→s'.heap.get? b=some o)→∀(Q:Value→Shared→Prop) (E:Value→Shared→Prop),Q it s'→wpAny (model prog w) A (pyIter it) Q E s')
  (h:Dg prog w A g L m env elt (⟨target,iter,ifs,0⟩::rest) scope pos exOf clOf K it s)
  (hRR:∀(g':Heap) D C s₃ m' nw',Fr g' C s₃.heap m'→News g' C s₃.heap nw'→(∀b o,g.get? b=some o→g'.get? b=some o)→(∃oL,g'.get? L=some oL)→Fr g L s₃.heap m→News g L s₃.heap nw'→g.get? C=none→C≠L→(∀p∈nw',p.1≠C)→K nw' D s₃→RR (.ref D) C (.ok .next) s₃):
  wpAny (model prog w) A (newList []) (fun acc s₃=>wpAny (model prog w) A (newFunctionEnv scope env.globals cl [] env.qual none .none (some env)) (fun cenv s₄=>
   codeAny (model prog w) A (.compStart (.ListComp elt (⟨target,iter,ifs,0⟩::rest) scope pos) 0 it acc {cenv with scope:=relabel scope env}) (RR acc cenv.locals) s₄) E s₃) E s:=by
 obtain⟨news,F,N,h⟩:=h
 refine wpAny_newObj_type (lay _ _ _ fun h₁ hns₁ keep₁ ex₁=>?_)
 dsimp only at hns₁ keep₁ ex₁⊢
 generalize hH2:s.heap.push {cls:=.type "list",dict:=none,data:=.seq ([]:List Value).toArray}=H2 at hns₁ keep₁ ex₁⊢
 k_extra "03c"
 k_extra "023"
 k_extra "01a"
 have old:∀b o,s.heap.get? b=some o→h₁.get? b=some o:=fun b o e=>keep₁ b o (hH2▸Heap.get?_push_of_some _ e)
 have hacc:h₁.get? s.heap.objs.size=some (listOf #[] 0):=keep₁ _ _ (hH2▸Heap.get?_push_size _ rfl)
 have gsub:∀b o,g.get? b=some o→b∉news.map (·.1):=fun b o e q=>by
  obtain⟨p,hp,rfl⟩:=List.mem_map.mp q
  rw [(N p hp).2.2] at e;cases e
 k_extra "0V"
 obtain⟨oL,es,ep,hL,hLd,hLk,hLf⟩:=F.ns
 have nL:L∉news.map (·.1):=fun q=>by
  obtain⟨p,hp,e⟩:=List.mem_map.mp q
  exact(N p hp).2.1 e
 have hLg:=hideAll_get (news.map (·.1)) hL nL
 have FC:Fr (hideAll s.heap (news.map (·.1))) H2.objs.size h₁ (fun _=>none):=
  ⟨hns₁,fun b o e=>old b o (of_hideAll _ e),by rw [hideAll_size,hC];exact Nat.le_succ _⟩
 have out:∀b,¬b<s.heap.objs.size→(hideAll s.heap (news.map (·.1))).get? b=none:=fun b hb=>by
  cases q:(hideAll s.heap (news.map (·.1))).get? b with
  |none=>rfl
  |some o=>exact absurd (Heap.lt_size (of_hideAll _ q)) hb
 have NC:News (hideAll s.heap (news.map (·.1))) H2.objs.size h₁ ((s.heap.objs.size,listOf #[] 0)::(exOf H2.objs.size++news)):=by
  intro p hp
  k_extra "02"
  ·exact⟨hacc,hDC,out _ (Nat.lt_irrefl _)⟩
  k_extra "01z"
  ·have x:=ex₁ p hp
   exact⟨x.1,Nat.ne_of_gt x.2,out _ fun hb=>by omega⟩
  ·k_extra "01G"
 have hCg:g.get? H2.objs.size=none:=by
  cases q:g.get? H2.objs.size with
  |none=>rfl
  |some o=>exact absurd (Heap.lt_size (F.keep _ _ q)) (by rw [hC];exact Nat.not_lt_of_le (Nat.le_succ _))
 k_extra "03G"
 have run:codeAny (model prog w) A (.compLoop (.ListComp elt (⟨target,iter,ifs,0⟩::rest) scope pos) 0 it (.ref s.heap.objs.size) (compEnvC scope (clOf H2.objs.size) H2.objs.size env)) (RR (.ref s.heap.objs.size) H2.objs.size)
   {s with heap:=h₁}:=by
  refine codeAny_mono (h _ s.heap.objs.size H2.objs.size h₁ st (fun b o e n=>hideAll_get _ e n) FC NC (fun p hp=>Heap.lt_size (N p hp).1) (by rw [hC];exact Nat.lt_succ_self _) fun p hp=>(ex₁ p hp).2) fun r s' hr=>?_
  obtain⟨rfl,m',nw',F',N',hK⟩:=hr
  k_extra "01c"
  k_extra "011"
  ·have:=(N' p hp).2.2;rw [q,hLg] at this;cases this
  ·cases q:g.get? p.1 with
   |none=>rfl
   |some o=>have:=(N' p hp).2.2;rw [st _ _ q] at this;cases this
 k_extra "04C"
theorem BU {elt target iter:PySem.Expr}{ifs:List PySem.Expr}{rest:List Comprehension}{scope:Scope}{cl:List (Str×Addr)}{pos:Pos}{exOf:Addr→List (Addr×Obj)}{clOf:Addr→List (Str×Addr)}{Q:Value→Shared→Prop}(_F:Fr g L s.heap m)
  (hclos:closureFor scope env=pure cl) (lay:BI prog w A scope env cl exOf clOf) (hkind:scope.kind= .function) (hnames:∀y∈scope.names,y.2= .local→scope.names.lookup y.1=some .local)
  (h:wpAny (model prog w) A (eval iter env) (fun xv s₁=>wpAny (model prog w) A (pyIter xv) (fun it s₂=>Bw prog w A it s₂.heap∧
   Dg prog w A g L m env elt (⟨target,iter,ifs,0⟩::rest) scope pos exOf clOf (fun nw' D s₃=>∀h',Fr g L h' m→News g L h' nw'→Q (.ref D) {s₃ with heap:=h'}) it s₂) E s₁) E s)
  (hs:∀x,foldedSetIterable iter env x=pure x:=by intro _;rfl):
  wpAny (model prog w) A (eval (.ListComp elt (⟨target,iter,ifs,0⟩::rest) scope pos) env) Q E s:=by
 rw [eval_ListComp]
 k_extra "0z"
 refine DS (RR:=fun acc C=>compPost (model prog w) A E none Q acc C) lay h₂.1 h₂.2 ?_
 k_extra "01R"
 k_extra "01n"
 obtain⟨oL,es,ep,hL,r⟩:=FL.ns
 k_extra "0J"
theorem FQ {elt target iter:PySem.Expr}{ifs:List PySem.Expr}{rest:List Comprehension}{scope:Scope}{cl:List (Str×Addr)}{pos spos:Pos}{y:Str}{py:Pos}{exOf:Addr→List (Addr×Obj)}{clOf:Addr→List (Str×Addr)}{Q:Flow→Shared→Prop}(_F:Fr g L s.heap m)(hLe:env.locals=L)
  (hsw:swapsWith (.ListComp elt (⟨target,iter,ifs,0⟩::rest) scope pos) (some (.Name y py)) spos.line env=pure true)
  (hclos:closureFor scope env=pure cl) (lay:BI prog w A scope env cl exOf clOf) (hkind:scope.kind= .function) (hnames:∀y∈scope.names,y.2= .local→scope.names.lookup y.1=some .local)
  (hy:env.kindOf y=some .local) (hp:(env.scope.kind== .class||(env.scope.kind== .module&&env.locals !=env.globals))=false)
  (h:wpAny (model prog w) A (eval iter env) (fun xv s₁=>wpAny (model prog w) A (pyIter xv) (fun it s₂=>Bw prog w A it s₂.heap∧
   Dg prog w A g L m env elt (⟨target,iter,ifs,0⟩::rest) scope pos exOf clOf (fun nw' D s₃=>∀h',Fr g L h' (fun z=>if z=y then some (.ref D) else m z)→News g L h' nw'→Q .next {s₃ with heap:=h',toks:=s₃.toks+1}) it s₂) E s₁) E s)
  (hs:∀x,foldedSetIterable iter env x=pure x:=by intro _;rfl):
  wpAny (model prog w) A (exec (.Assign [.Name y py] (.ListComp elt (⟨target,iter,ifs,0⟩::rest) scope pos) spos) env) Q E s:=by
 subst hLe
 rw [exec_Assign_Name_used _ _ _ _ hsw]
 refine wpAny_bind (wpAny_standAt (wpAny_bind ?_))
 show wpAny _ A (do let _←comprehension (.ListComp elt (⟨target,iter,ifs,0⟩::rest) scope pos) scope env _ (newList []) false (eval iter env) (some (assign (.Name y py) env))) _ _ s
 refine wpAny_bind (wpAny_mono (wpAny_comprehension_free (use:=some (assign (.Name y py) env)) (Q:=fun _ s'=>Q .next s') rfl hs hclos hkind hnames
  (wpAny_mono h (fun xv s₁ h₁=>wpAny_mono h₁ (fun it s₂ h₂=>?_) fun _ _ e=>e) fun _ _ e=>e)) (fun _ s' hq=>wpAny_pure (wpAny_pure hq)) fun _ _ e=>e)
 refine DS (RR:=fun acc C=>compPost (model prog w) A E (some (assign (.Name y py) env)) (fun _ s'=>Q .next s') acc C) lay h₂.1 h₂.2 ?_
 k_extra "01R"
 k_extra "04j"
 k_extra "02f"
 have F2:=FL.set hn₂ hs₂
 have N2:=NL.set hs₂
 refine⟨m',F'.ns.sameBut hs₂ hCL,fun h'' hs''=>hK h'' ?_ fun p hp=>⟨hs''.extBut _ _ (hne p hp) (N2 p hp).1,(N2 p hp).2⟩⟩
 obtain⟨oL,es,ep,hL,r⟩:=F2.ns
 k_extra "0K"
end
section
variable{prog:Program}{w:World}{A:Around}{E:Value→Shared→Prop}{s:Shared}{env:Env}{g:Heap}{L:Addr}{m:Str→Option Value}{R:Result→Shared→Prop}
theorem EW (elt t1 i1 t2 i2:PySem.Expr)(scope:Scope)(pos:Pos)(it acc:Value)(env:Env):
  compTurn (.ListComp elt [⟨t1,i1,[],0⟩,⟨t2,i2,[],0⟩] scope pos) 0 it acc env=(do
   standAt i1.pos
   match←pyNext it with
   |none=>pure (.done .next)
   |some v=>
    letOwnedTupleGo t1 it v
    assign t1 env v
    let mut ok:=true
    for c in ([]:List PySem.Expr) do
     if ok then ok←isTrue c env (eval c env)
    if ok then
     let x←eval i2 env
     standAt i2.pos
     let x←foldedSetIterable i2 env x
     let _←runOwn (.compStart (.ListComp elt [⟨t1,i1,[],0⟩,⟨t2,i2,[],0⟩] scope pos) 1 (←holding [x] (pyIter x)) acc env) env
    again (.compLoop (.ListComp elt [⟨t1,i1,[],0⟩,⟨t2,i2,[],0⟩] scope pos) 0 it acc env)):=by rfl
theorem EV (elt t1 i1 t2 i2:PySem.Expr)(scope:Scope)(pos:Pos)(it acc:Value)(env:Env):
  compTurn (.ListComp elt [⟨t1,i1,[],0⟩,⟨t2,i2,[],0⟩] scope pos) 1 it acc env=(do
   standAt i2.pos
   match←pyNext it with
   |none=>pure (.done .next)
   |some v=>
    letOwnedTupleGo t2 it v
    assign t2 env v
    let mut ok:=true
    for c in ([]:List PySem.Expr) do
     if ok then ok←isTrue c env (eval c env)
    if ok then
     (do let _←call (.builtin "list.append") [acc,←eval elt env])
    again (.compLoop (.ListComp elt [⟨t1,i1,[],0⟩,⟨t2,i2,[],0⟩] scope pos) 1 it acc env)):=by rfl
theorem EG {elt t1 i1 t2 i2 scope pos it acc env}
  (h0:codeAny (model prog w) A (.compLoop (.ListComp elt [⟨t1,i1,[],0⟩,⟨t2,i2,[],0⟩] scope pos) 1 it acc env) R s)
  (h:wpAny (model prog w) A (pyIter it) (fun it' s'=>codeAny (model prog w) A (.compLoop (.ListComp elt [⟨t1,i1,[],0⟩,⟨t2,i2,[],0⟩] scope pos) 1 it' acc env) R s')
   (notedBy (model prog w) A env fun x s'=>R (.error x) s') s):
  codeAny (model prog w) A (.compStart (.ListComp elt [⟨t1,i1,[],0⟩,⟨t2,i2,[],0⟩] scope pos) 1 it acc env) R s:=by
 refine codeAny_of_tree ?_
 show wpAny _ _ ((compStart (.ListComp elt [⟨t1,i1,[],0⟩,⟨t2,i2,[],0⟩] scope pos) 1 it acc env).onRaise (fun x=>do noteFrame x env;standAt theWindowsPlace)) _ _ s
 refine wpAny_notedAt ?_
 unfold compStart
 show wpAny _ _ (ask>>=_) _ _ s
 k_extra "04N"
 split
 ·first
   |exact wpAny_bind (wpAny_pure (wpAny_pure (And.intro rfl h0)))
   |exact wpAny_pure (And.intro rfl h0)
 ·first
   |exact wpAny_bind (wpAny_rule (wpAny_bind (wpAny_standAt (wpAny_bind (wpAny_mono h (fun it' s' h'=>wpAny_pure (And.intro rfl h')) fun _ _ x=>x)))))
   |(refine wpAny_bind (wpAny_rule ?_);show wpAny _ _ (standAt i2.pos>>=_) _ _ s;exact wpAny_bind (wpAny_standAt (wpAny_bind (wpAny_mono h (fun it' s' h'=>wpAny_pure (And.intro rfl h')) fun _ _ x=>x))))
noncomputable def Turn2X (prog:Program)(w:World)(A:Around)(g':Heap)(C D:Addr)(cenv:Env)(elt target:PySem.Expr)(it:Value)(R:Shared→Prop)(s₀:Shared)(J:Nat→Nat→(Str→Option Value)→List (Addr×Obj)→Prop)(n:Nat)(r:Option Value)(s₁:Shared):Prop:=
 DI prog w A g' C D cenv elt target [] it R s₀ J n r s₁
noncomputable def LM (prog:Program)(w:World)(A:Around)(g':Heap)(C D:Addr)(cenv:Env)(elt target:PySem.Expr)(R:Shared→Prop)(it:Value)(s₀:Shared):Prop:=
 Bw prog w A it s₀.heap∧CU prog w A g' C D cenv elt target [] it R s₀
noncomputable def Cj (prog:Program)(w:World)(A:Around)(g':Heap)(C D:Addr)(cenv:Env)(elt t1 t2 i2:PySem.Expr)(it:Value)(R:Shared→Prop)(s₀:Shared)(J:Nat→Nat→(Str→Option Value)→List (Addr×Obj)→Prop)(n:Nat)(r:Option Value)(s₁:Shared):Prop:=
 match r with
 |none=>R s₁
 |some v=>wpAny (model prog w) A (letOwnedTupleGo t1 it v) (fun _ s₂=>wpAny (model prog w) A (assign t1 cenv v) (fun _ s₃=>wpAny (model prog w) A (eval i2 cenv) (fun x s₄=>wpAny (model prog w) A (pyIter x) (fun it2 s₅=>
   LM prog w A g' C D cenv elt t2 (fun s₆=>Az g' C s₀ J n s₆) it2 s₅) (fun _ _=>False) s₄) (fun _ _=>False) s₃) (fun _ _=>False) s₂) (fun _ _=>False) s₁
inductive GT (prog:Program) (w:World) (A:Around) (g':Heap) (C D:Addr) (cenv:Env) (elt t1 t2 i2:PySem.Expr) (it:Value) (R:Shared→Prop) (s₀:Shared):Prop
 |mk (J:Nat→Nat→(Str→Option Value)→List (Addr×Obj)→Prop) (n₀:Nat) (m:Str→Option Value) (nw:List (Addr×Obj)) (_:Fr g' C s₀.heap m) (_:News g' C s₀.heap nw) (_:J n₀ s₀.toks m nw) (_:∀n tk₁ m₁ nw₁ h₁,Fr g' C h₁ m₁→News g' C h₁ nw₁→J n tk₁ m₁ nw₁→wpAny (model prog w) A (pyNext it) (Cj prog w A g' C D cenv elt t1 t2 i2 it R s₀ J n) (fun _ _=>False) {s₀ with heap:=h₁,toks:=tk₁}):GT prog w A g' C D cenv elt t1 t2 i2 it R s₀
theorem HC {elt t1 i1 t2 i2:PySem.Expr}{scope:Scope}{pos:Pos}{it:Value}{g':Heap}{C D:Addr}{cenv:Env}
  (h:CU prog w A g' C D cenv elt t2 [] it (fun s'=>R (.ok .next) s') s):
  codeAny (model prog w) A (.compLoop (.ListComp elt [⟨t1,i1,[],0⟩,⟨t2,i2,[],0⟩] scope pos) 1 it (.ref D) cenv) R s:=by
 k_extra "03w"
 k_extra "09"
 k_extra "02F"
 show wpAny _ A ((compTurn (.ListComp elt [⟨t1,i1,[],0⟩,⟨t2,i2,[],0⟩] scope pos) 1 it (.ref D) cenv).onRaise (fun x=>do noteFrame x cenv;theTreesLotGoes x)) _ _ _
 refine wpAny_noted ?_
 rw [EV]
 k_extra "0l"
 have fin:∀{s₅},Az g' C s J n s₅→∃k,k<n∧∃h₁ tk₁ m₁ nw₁,s₅={s with heap:=h₁,toks:=tk₁}∧Fr g' C h₁ m₁∧News g' C h₁ nw₁∧J k tk₁ m₁ nw₁:=by
  k_extra "02B"
  k_extra "02c"
 cases r with
 |none=>exact wpAny_pure hr
 |some v=>
  k_extra "01A"
  k_extra "013"
  refine wpAny_tests_nil ?_
  exact wpAny_bind (wpAny_bind (wpAny_mono h₃ (fun x s₅ h₅=>wpAny_bind (wpAny_mono h₅ (fun _ s₆ h₆=>wpAny_pure (wpAny_pure ⟨rfl,fin h₆⟩)) fun _ _ h'=>h'.elim)) fun _ _ h'=>h'.elim))
theorem Ja {elt t1 i1 t2 i2:PySem.Expr}{scope:Scope}{pos:Pos}{it:Value}{g':Heap}{C D:Addr}{cenv:Env}
  (h:GT prog w A g' C D cenv elt t1 t2 i2 it (fun s'=>R (.ok .next) s') s) (hs:∀x,foldedSetIterable i2 cenv x=pure x:=by intro _;rfl):
  codeAny (model prog w) A (.compLoop (.ListComp elt [⟨t1,i1,[],0⟩,⟨t2,i2,[],0⟩] scope pos) 0 it (.ref D) cenv) R s:=by
 k_extra "03w"
 k_extra "09"
 k_extra "02F"
 show wpAny _ A ((compTurn (.ListComp elt [⟨t1,i1,[],0⟩,⟨t2,i2,[],0⟩] scope pos) 0 it (.ref D) cenv).onRaise (fun x=>do noteFrame x cenv;theTreesLotGoes x)) _ _ _
 refine wpAny_noted ?_
 rw [EW]
 k_extra "0l"
 have fin:∀{s₅},Az g' C s J n s₅→∃k,k<n∧∃h₁ tk₁ m₁ nw₁,s₅={s with heap:=h₁,toks:=tk₁}∧Fr g' C h₁ m₁∧News g' C h₁ nw₁∧J k tk₁ m₁ nw₁:=by
  k_extra "02B"
  k_extra "02c"
 cases r with
 |none=>exact wpAny_pure hr
 |some v=>
  k_extra "01A"
  k_extra "013"
  refine wpAny_tests_nil ?_
  refine wpAny_bind (wpAny_mono h₃ (fun x s₄ h₄=>?_) fun _ _ h'=>h'.elim)
  refine wpAny_bind (wpAny_standAt (wpAny_bind (wpAny_of_eq (hs x) (wpAny_bind (wpAny_holding (wpAny_mono h₄ (fun it2 s₅ h₅=>?_) fun _ _ h'=>h'.elim))))))
  have run:codeAny (model prog w) A (.compLoop (.ListComp elt [⟨t1,i1,[],0⟩,⟨t2,i2,[],0⟩] scope pos) 1 it2 (.ref D) cenv) (fun r s'=>r= .ok .next∧Az g' C s J n s') s₅:=by
   refine HC (g':=g') (C:=C) ?_
   obtain⟨J2,n2,m2,nw2,a1,a2,a3,a4⟩:=h₅.2
   refine⟨J2,n2,m2,nw2,a1,a2,a3,fun n' tk' m' nw' h' b1 b2 b3=>wpAny_mono (a4 n' tk' m' nw' h' b1 b2 b3) (fun r s' hr=>?_) fun _ _ e=>e⟩
   cases r with
   |none=>exact⟨rfl,hr⟩
   |some v=>exact hr
  refine wpAny_bind (wpAny_runOwn (codeAny_mono (EG run (h₅.1 _ (fun _ _ e=>e) _ _ run)) fun r s' hr=>?_))
  obtain⟨rfl,hend⟩:=hr
  exact wpAny_pure ⟨rfl,fin hend⟩
end
section
variable{prog:Program}{w:World}{dp un:Nat}{gd:Option (List Code)}{s:Shared}{K:Frag}{R:Result→Shared→Prop}{name qual:Str}{params:Arguments}{body:List Stmt}{scope:Scope}{dV kV doc pm cdv ct oc:Value}{an od:Option Addr}{osl:Array (Option Value)}{f:Addr}{args:Args}{binds:List (Str×Value)}
 {p:Program} {loose:List Str} {mz:ExcName→Option Value} {mg mb:Str→Option Value} {base:Heap} {ou:List Env}
theorem Er (mu:List (Addr×Obj))(S:Ae base ou s.heap)(X:K.In base)(T:Top p loose mz mg mb base)(hm:∀q∈mu,s.heap.get? q.1=some q.2∧base.get? q.1=none∧q.1∉AF ou)
  (ho:K.lookup f=some ⟨oc,od,.func (fnOf name qual params body scope dV kV doc pm an cdv ct),osl⟩) (hcd:codeIn K cdv qual=true) (hroom:dp<recursionLimit)
  (hbind:BindsTo s (fnOf name qual params body scope dV kV doc pm an cdv ct) args binds) (hkind:(binds.all fun y=>scope.names.lookup y.1==some .local||scope.names.lookup y.1==some .cell)=true)
  (hnd:((cellsFrom 0 scope.names []).map (·.1)).Nodup)
  (h:∀g L' h₁ tk cells,s.toks≤tk→Fr g L' h₁ (bindL (envOfC qual scope L' f cdv).kindOf binds fun _=>none)→News g L' h₁ (cells++mu)→CellsAre (bindC (envOfC qual scope L' f cdv).kindOf binds fun _=>none) (cellsFrom (L'+1) scope.names []) cells→K.In g→Top p loose mz mg mb g→Below (AR dp un (some ou) gd) base ou g→KtsDicts (AF ou) g→(∀b o,s.heap.get? b=some o→b∉mu.map (·.1)→g.get? b=some o)→
   (∀q∈mu,q.1<L')→s.heap.objs.size≤L'→
   wpAny (model prog w) ((AR dp un (some ou) gd).deeper (envOfC qual scope L' f cdv)) (execs body (envOfC qual scope L' f cdv))
    (fun fl s'=>R (.ok (.ret (match fl with|.ret v=>v|_=>.none))) s')
    (fun e s'=>wpAny (model prog w) ((AR dp un (some ou) gd).deeper (envOfC qual scope L' f cdv)) (leaving (envOfC qual scope L' f cdv) e) (fun _ s''=>R (.error e) s'') (fun e' s''=>R (.error e') s'') s')
    {s with heap:=h₁,toks:=tk})
  (hco:scope.isCoroutine=false) (hgen:scope.isGenerator=false) (hk:scope.kind= .function):
  codeAny (model prog w) (AR dp un (some ou) gd) (.call (.ref f) args) R s:=by
 have off:∀b o,base.get? b=some o→b∉mu.map (·.1):=fun b o e q=>by
  k_extra "020"
  rw [(hm x hq).2.1] at e;cases e
 k_extra "01x"
 have offF:∀b∈AF ou,b∉mu.map (·.1):=fun b hb q=>by
  k_extra "020"
  exact(hm x hq).2.2 hb
 refine codeAny_call_function (fd:=fnOf name qual params body scope dV kV doc pm an cdv ct) hroom (S.stays _ _ (X _ _ ho)) rfl hco hgen rfl (codeRec_of (X.keeps S.stays) hcd) (hbind _ _ _ _ ?_)
 refine Aj (wpAny_newFunctionEnv_cells hk (kindsX hkind _) fun env' he s' x hle=>?_)
 subst he
 refine⟨(T.nolimit.keeps S.stays).keeps x.toInCall.keep,codeAny_func ?_⟩
 obtain⟨h₁,tk,rfl,_⟩:=x.done
 have hk₁:=x.toInCall.keep
 k_extra "0o"
 refine h _ s.heap.objs.size h₁ tk cells hle ⟨x.toInCall.ns,fun b o e=>hk₁ b o (of_hideAll _ e),Nat.le_of_eq (hideAll_size _ _)⟩ (fun p hp=>?_) Y (X.keeps st) (T.keeps st)
  ⟨rfl,st,CK S.frames fun b hb o e=>hideAll_get _ e (offF b hb)⟩
  (fun b hb=>by
   k_extra "04U"
   exact⟨o,es,n,hideAll_get _ e (offF b hb),d⟩)
  (fun b o e n=>hideAll_get _ e n) (fun q hq=>Heap.lt_size (hm q hq).1) (Nat.le_refl _)
 k_extra "01z"
 ·refine⟨(NC p hp).1,(NC p hp).2.1,?_⟩
  cases q:(hideAll s.heap (mu.map (·.1))).get? p.1 with
  |none=>rfl
  |some o=>have:=of_hideAll _ q;rw [(NC p hp).2.2] at this;cases this
 ·k_extra "01g"
end
section
variable{A₀:Around}{base g h h':Heap}{ou:List Env}{L a:Addr}{m:Str→Option Value}{name:Str}{scope:Scope}{cd:Value}{news:List (Addr×Obj)}
theorem Below.pushC (K:Below A₀ base ou g)(F:Fr g L h m)(hk:scope.kind= .function:=by rfl):Below (A₀.deeper (envOfC name scope L a cd)) base (envOfC name scope L a cd::ou) h:=by
 have hnew:base.get? L=none:=by
  cases hq:base.get? L with
  |none=>rfl
  |some o=>exact absurd (Nat.lt_of_lt_of_le (Heap.lt_size (K.stays L o hq)) F.above) (Nat.lt_irrefl _)
 refine⟨Around.frames_deeper K.stack,fun b o e=>F.keep b o (K.stays b o e),?_⟩
 exact .cons (by show scope.kind≠.module;rw [hk];decide) rfl F.ns hnew (K.frames.of_keeps fun b o e _=>⟨o,F.keep b o e,rfl⟩)
theorem As (B:Below A₀ base ou g)(D:KtsDicts (AF ou) g)(F:Fr g L h m)(hk:scope.kind= .function:=by rfl):Ae base (envOfC name scope L a cd::ou) h:=by
 have B':=Below.pushC (name:=name) (a:=a) (cd:=cd) B F hk
 refine⟨B'.stays,B'.frames,fun b hb=>?_⟩
 have hb':b∈(envOf name scope L a cd::ou).filterMap (·.frame):=hb
 rcases kts_mem hb' with rfl|hb
 ·obtain⟨o,es,n,e,d,_⟩:=F.ns
  exact⟨o,es,n,e,d⟩
 ·obtain⟨o,es,n,e,d⟩:=D b hb
  exact⟨o,es,n,F.keep b o e,d⟩
theorem J5 {M:Model}{A:Around}{E:Value→Shared→Prop}{s:Shared}{K:Frag}{h₀:Heap}{m mg mb:Str→Option Value}{p:Program}{loose:List Str}
  {x:Str} {pos:Pos} {v:Value} {Q:Value→Shared→Prop} (F:Fr h₀ L s.heap m) (X:K.In h₀) (T:TopRead p loose mg mb h₀) (e:nsIn K mainGlobals x=some none) (hv:bootBuiltins x=some v) (hn:x≠ "__name__") (h:Q v s)
  (hk:scope.kind= .function:=by rfl) (hx:(envOfC name scope L a cd).kindOf x=some .globalImplicit:=by rfl) (hd:(x==("__debug__":Str))=false:=by decide):
  wpAny M A (eval (.Name x pos) (envOfC name scope L a cd)) Q E s:=
 Calls.Name_function_global hk hx (Calls.loadGlobal_builtin (env:=envOfC name scope L a cd) (T.g.keeps F.keep) (mg_none_of X T.g e) (T.b.keeps F.keep) ((T.builtins x hn).trans hv) h) hd
end
theorem E3 {base G h:Heap}{l:List Env}{e:Addr}{cls:Value}{news:List (Addr×Obj)}(R:RaisedSN base G l e cls [] h)(N:∀q∈news,G.get? q.1=some q.2∧q.1∉l.filterMap (·.frame)∧base.get? q.1=none):
  RaisedSN base (hideAll G (news.map (·.1))) l e cls news h:=by
 obtain⟨B,a0,h1,h2,_,h4⟩:=R
 exact⟨B,a0,h1,fun b o q m=>h2 b o (of_hideAll _ q) m,fun q hq=>⟨h2 _ _ (N q hq).1 (N q hq).2.1,hideAll_none _ (List.mem_map_of_mem hq),(N q hq).2.2⟩,h4⟩
theorem Fg {base g s₀ h:Heap}{l:List Env}{e:Addr}{cls:Value}(keep:∀b o,s₀.get? b=some o→g.get? b=some o)(R:RaisedSN base g l e cls [] h):RaisedSN base s₀ l e cls [] h:=by
 obtain⟨B,a0,h1,h2,_,h4⟩:=R
 exact⟨B,a0,h1,fun b o q m=>h2 b o (keep b o q) m,(fun q hq=>nomatch hq),h4⟩
section
variable{prog:Program}{w:World}{A₀:Around}{E:Value→Shared→Prop}{s':Shared}{base g g₀ G:Heap}{ou:List Env}{L a e t C:Addr}{m:Str→Option Value}{name:Str}{scope:Scope}{cd:Value}
 {vs:List Value} {n:Str} {b₀:Stmt} {suite:List Stmt} {pos np:Pos} {rest:List ExceptHandler} {Q:Flow→Shared→Prop} {news:List (Addr×Obj)} {KF:Frag}
 {p:Program} {loose:List Str} {mz:ExcName→Option Value} {mg mb:Str→Option Value} {x y:Str} {X T':String}
theorem IW (R:RaisedSN base G (envOfC name scope L a cd::ou) e (.type X) news s'.heap)(F:Fr g L G m)(K:Below A₀ base ou g)(hsm:G.UpToSlots s'.heap)(XB:KF.In base)(TB:Top p loose mz mg mb base)
  (D:KtsDicts (ou.filterMap (·.frame)) g)
  (ex:nsIn KF mainGlobals x=some none) (hv:bootBuiltins x=some (.type T')) (hn':x≠ "__name__")
  (hexc:isSubtype (.type T') (.type "BaseException")=pure true) (hnt:isSubtype (.type ((Manifest.find? T').elim "type" fun y=>y.metatype)) (.type "tuple")=pure false) (hsub:isSubtype (.type X) (.type T')=pure true)
  (k:∀h' g',KtsTurn (ou.filterMap (·.frame)) g g'→Fr g' L h' m→News g' L h' news→Below A₀ base ou g'→KF.In g'→Top p loose mz mg mb g'→KtsDicts (ou.filterMap (·.frame)) g'→
   wpAny (model prog w) ((A₀.deeper (envOfC name scope L a cd)).mark (some (.ref e))) (execs (b₀::suite) (envOfC name scope L a cd)) Q E {s' with heap:=h'})
  (hk:scope.kind= .function:=by rfl) (hx:(envOfC name scope L a cd).kindOf x=some .globalImplicit:=by rfl) (hd:(x==("__debug__":Str))=false:=by decide)
  (hE:PassesOwnAt (model prog w) ((A₀.deeper (envOfC name scope L a cd)).mark (some (.ref e))) (A₀.deeper (envOfC name scope L a cd)) (envOfC name scope L a cd) E:=by passes_own):
  wpAny (model prog w) (A₀.deeper (envOfC name scope L a cd)) (noteFrame (.ref e) (envOfC name scope L a cd))
   (fun _ s₂=>wpAny (model prog w) (A₀.deeper (envOfC name scope L a cd)) (setFlight (.ref e) none) (fun _ s₃=>
    wpAny (model prog w) (A₀.deeper (envOfC name scope L a cd)) (handleBy (.ref e) (envOfC name scope L a cd) (.ExceptHandler (some (.Name x np)) none (b₀::suite) pos::rest)) Q E s₃) E s₂) E s':=by
 obtain⟨B,a0,hB,hBG,hl,hfl⟩:=R
 have hL:B.get? L=none:=by
  obtain⟨_,⟨L',_,hf,hn',_⟩,_⟩:=hfl.2.2.1
  obtain rfl:L=L':=Option.some.inj hf
  exact hn'
 have hBG':∀b o,G.get? b=some o→b∉(envOf name scope L a cd::ou).filterMap (·.frame)→B.get? b=some o:=hBG
 refine wpAny_looks_onW (Around.frames_deeper K.stack) rfl hfl fun h₄ hheld₄ hsm₄=>?_
 refine wpAny_landsW hheld₄ fun h₅ hheld hsm₅'=>?_
 have hsm₅:=hsm₄.trans hsm₅'
 obtain⟨g₅,T₅,F₅,K₅⟩:=kts_ground K F hBG' hheld.1 (hsm.trans hsm₅)
 have X₅:KF.In g₅:=XB.keeps K₅.stays
 k_extra "03d"
 obtain⟨ob,hob,hobc⟩:=hheld.there
 refine wpAny_handleBy_builtin (X:=X) (T:=T') (b:=true) hexc hnt hsub (J5 F₅ X₅ P₅ ex hv hn' ⟨rfl,⟨ob,hob,hobc⟩,?_⟩ hk hx hd)
 k_extra "04D"
 obtain⟨g₆,T₆,F₆,K₆⟩:=kts_ground K F hBG' hfl₆.1 ((hsm.trans hsm₅).trans hsm₆)
 have Nl:News g₆ L h₆ news:=fun q hq=>⟨hfl₆.1 _ _ (hl q hq).1,(fun z=>by have:=(hl q hq).1;rw [z,hL] at this;cases this),T₆.none_ _ (kts_none F.keep (hl q hq).2.1)⟩
 have X₆:KF.In g₆:=XB.keeps K₆.stays
 k_extra "04c"
 k_extra "03J"
 k_extra "031"
end
section
section
variable{w:World}{dp un:Nat}{gd:Option (List Code)}{s:Shared}{loose:List Str}{mz:ExcName→Option Value}{mg mb:Str→Option Value}{Q E:Value→Shared→Prop}{base:Heap}{ou:List Env}
theorem kw_W32_1:True:=by
 k_with "MpyReprObj str"=>((fail_if_success k_extra "oW32");(refine pyReprObj_str (hx:=by rw [sizeLine_eq];decide+kernel) ?_))
 k_with "MformatField str"=>((fail_if_success k_extra "oW32");((refine formatField_str (hsz:=by rw [sizeLine_eq];decide+kernel) ?_);intro q__ q__))
 k_with "MjoinParts"=>((fail_if_success k_extra "oW32");(refine joinParts_nilE (joinParts_nil ?_ (by rw [sizeLine_eq];decide+kernel))))
 trivial
theorem E1 {v:Value}{tt:Tok}{kw:List (Str×Value)}{binds:List (Str×Value)}(SD:Ae base ou s.heap)(X:(Mine.hd.heap_39 w.params).In base)(T:Top Mine.hd.view_39 loose mz mg mb base)
  (hd:dp≤400) (hu:un≤7000)
  (hbind:∀oc od fd osl,(Mine.hd.heap_39 w.params).lookup 250=some ⟨oc,od,.func fd,osl⟩→BindsTo s fd ⟨[v],kw⟩ binds)
  (hnm:∀y∈binds,y.1∈ [Str.ofString "data",Str.ofString "key",Str.ofString "reverse",Str.ofString "ties",Str.ofString "start"])
  (hHas:Has (fun y=>binds.reverse.lookup y) [(Str.ofString "ties",.str (Str.ofString "min") tt)])
  (he:∀h' tk' e,RaisedSN base s.heap ou e (.type "ValueError") [] h'→s.heap.UpToSlots h'→E (.ref e) {s with heap:=h',toks:=tk'}):
  wpAny (model PR w) (AR dp un (some ou) gd) (call (.ref 250) [v] kw) Q E s:=by
 revert w dp un gd s loose mz mg mb Q E base ou v tt kw binds
 as_aux_lemma=>
 intro pick_ w dp un gd s loose mz mg mb Q E base ou v tt kw binds
 intro SD X T hd hu hbind hnm hHas he
 k_extra "0D"
 refine' Am (binds:=binds) [] SD X T ?m ?k6 ?k7 ?k8 ?k9 ?kB ?_ ?c2 ?c3 ?c4 ?c5
 (case m=>(intro q hq;cases hq))
 k_extra "02m"
 case k9=>exact hbind _ _ _ _ (by k_is)
 k_extra "0E"
 intro g L' h₁ F0 N X' T' B' Dt keep lt le
 dsimp only
 k_extra "04P"
 k_fold
 have F:=hHas.fr F0
 clear F0
 k_steps
 ·rw [sizeLine_eq];decide+kernel
 rename RaisedSN _ _ _ _ _ _ _=>R6
 rename Heap.UpToSlots _ _=>U6
 have k0:∀b o,s.heap.get? b=some o→g.get? b=some o:=fun b o e=>keep b o e (by simp)
 exact he _ _ _ (Fg k0 R6) fun b o e n=>U6 b o (k0 b o e) n
end
theorem kw_W32_e:True:=by
 k_with "oW32"=>skip
 trivial
end
section
variable{M:Model}{A:Around}{E:Value→Shared→Prop}{s:Shared}{g:Heap}{C c:Addr}{o:Obj}{m:Str→Option Value}{rest:List (Addr×Obj)}{scope:Scope}{cl:List (Str×Addr)}{env:Env}{y:Str}{v:Value}{x:Option Value}
theorem Jb {Q:Unit→Shared→Prop}(F:Fr g C s.heap m)(N:News g C s.heap ((c,o)::rest))(hne:∀p∈rest,p.1≠c)(hd:o.data= .cell x)(hc:cl.lookup y=some c)
  (h:∀h' o',o'.data= .cell (some v)→Fr g C h' m→News g C h' ((c,o')::rest)→Q () {s with heap:=h'})
  (hk:(compEnvC scope cl C env).scope.kind= .function) (hl:(compEnvC scope cl C env).kindOf y=some .cell):
  wpAny M A (storeName (compEnvC scope cl C env) y v) Q E s:=by
 have hN:=N _ (.head _)
 k_extra "039"
 obtain⟨o',e',d'⟩:=hcell
 k_extra "046"
 k_extra "02"
 ·exact⟨e',hN.2⟩
 ·k_extra "02N"
end
noncomputable def BL (a b:Int):Int:=if b<a then 2 else if b=a then 1 else 0
noncomputable def EE (ns:List Int)(a:Int):Int:=1+(ns.map (BL a)).sum
theorem GJ (ns:List Int)(a:Int):(ns.map (BL a)).sum=2*(ns.countP fun b=>decide (b<a))+(ns.countP fun b=>decide (b=a)):=by
 induction ns with
 |nil=>rfl
 |cons b r ih=>
  rw [List.map_cons,List.sum_cons,ih,List.countP_cons,List.countP_cons]
  unfold BL
  by_cases h1:b<a
  ·have h2:b≠a:=by omega
   k_extra "02J"
   exact Ar.r95
  ·by_cases h2:b=a
   ·simp only [h1,h2,if_true,decide_true,decide_false,if_false,Bool.false_eq_true,Int.lt_irrefl]
    exact Ar.r100
   ·k_extra "02J"
    exact Ar.r121
theorem Em {vs:List Value}{ns:List Int}(h:IntsAre vs ns)(n:Int)(t:Tok):IntsAre (vs++ [.int n t]) (ns++ [n]):=by
 induction h with
 |nil=>exact .cons n t .nil
 |cons m u r ih=>exact .cons m u ih
theorem BW {us:List Value}{ns:List Int}{f:Int→Int}{i:Nat}{v:Int}{t:Tok}(h:IntsAre us ((ns.take i).map f))(hi:i<ns.length)(hv:v=f (ns.getD i 0)):IntsAre (us++ [.int v t]) ((ns.take (i+1)).map f):=by
 have e:ns.take (i+1)=ns.take i++ [ns.getD i 0]:=by
  rw [List.take_add_one]
  simp [hi]
 rw [e,List.map_append,hv]
 exact Em h _ _
theorem AM {a b:Addr×Obj}{r:List (Addr×Obj)}{g h:Heap}{C:Addr}(N:News g C h (a::b::r)):News g C h (b::a::r):=fun p hp=>N p (Bj [1,0] 2 rfl hp)
theorem JF {a b c:Addr×Obj}{r:List (Addr×Obj)}{g h:Heap}{C:Addr}(N:News g C h (a::b::c::r)):News g C h (b::c::a::r):=fun p hp=>N p (Bj [1,2,0] 3 rfl hp)
noncomputable def BX (lo:Nat)(us:List Value)(tk:Nat):Prop:=(∀m (t:Nat),Value.int m t∈us→@LE.le Nat _ lo t∧@LT.lt Nat _ t tk)∧∀m k (t:Nat),Value.int m t∈us→Value.int k t∈us→m=k
theorem BX.nil {lo tk:Nat}:BX lo [] tk:=⟨fun _ _ h=>(nomatch h),fun _ _ _ h=>(nomatch h)⟩
theorem BX.snoc {lo tk tk' t:Nat}{us:List Value}{m:Int}(F:BX lo us tk)(h1:tk≤t)(h0:lo≤t)(h2:t<tk'):BX lo (us++ [.int m t]) tk':=by
 refine⟨fun k u hk=>?_,fun k j u hk hj=>?_⟩
 ·k_extra "018"
  ·have:=F.1 k u hk
   k_extra "02p"
  ·k_extra "02t"
   exact⟨h0,h2⟩
 ·k_extra "018"
  ·k_extra "02D"
   ·exact F.2 k j u hk hj
   ·k_extra "04J"
    have l:=(F.1 k u hk).2
    rw [e] at l
    exact absurd l (Nat.not_lt_of_le h1)
  ·have e:=Value.int.inj (List.mem_singleton.mp hk)
   k_extra "02D"
   ·have l:=(F.1 j u hj).2
    rw [e.2] at l
    exact absurd l (Nat.not_lt_of_le h1)
   ·k_extra "03v"
section
section
variable{w:World}{dp un:Nat}{gd:Option (List Code)}{s:Shared}{loose:List Str}{mz:ExcName→Option Value}{mg mb:Str→Option Value}{Q E:Value→Shared→Prop}{base:Heap}{ou:List Env}
theorem CR {K:Frag}{a:Addr}{o o':Obj}{P:Prop}(e:K.lookup a=some o)(k:K.lookup a=some o')(h:o=o'→P):P:=h (Option.some.inj (e.symm.trans k))
theorem Ca {d:Addr}{vs:List Value}{ns:List Int}{n:Nat}(hne:0<ns.length)(SD:Ae base ou s.heap)(X:(Mine.hd.heap_39 w.params).In base)(T:Top Mine.hd.view_39 loose mz mg mb base)
  (hd:dp≤400) (hu:un≤7000) (hd1:s.heap.get? d=some (listOf vs.toArray n)) (hd0:base.get? d=none) (hi:IntsAre vs ns) (h64:ns.length<64) (tok0:∀m t,Value.int m t∈vs→t≠0) (tok1:∀m k t,Value.int m t∈vs→Value.int k t∈vs→m=k)
  (h:∀h' tk' R us,h'.get? R=some (listOf us.toArray 0)→AU us (ns.map (AH 1 ns))→s.heap.get? R=none→Up (AF ou) [] s.heap h'→Q (.ref R) {s with heap:=h',toks:=tk'}):
  wpAny (model PR w) (AR dp un (some ou) gd) (call (.ref 250) [.ref d]) Q E s:=by
 revert w dp un gd s loose mz mg mb Q E base ou d vs ns n
 as_aux_lemma=>
 intro pick_ w dp un gd s loose mz mg mb Q E base ou d vs ns n
 intro hne SD X T hd hu hd1 hd0 hi h64 tok0 tok1 h
 refine Eh (binds:= [(Str.ofString "data",.ref d),(Str.ofString "key",.none),(Str.ofString "reverse",.bool false),(Str.ofString "ties",.str (Str.ofString "average") 519),(Str.ofString "start",.int 1 520)]) hne (by decide) SD X T hd hu hd1 hd0 hi h64 tok0 tok1 ?_ (by simp) ⟨rfl,rfl,rfl,rfl,rfl,trivial⟩ h
 intro oc od fd osl e
 intro clo_ oc od fd osl p_ e
 refine' CR e ?k ?_
 (case k=>k_is)
 intro q
 cases q
 k_extra "03F"
theorem Gj {d:Addr}{vs:List Value}{ns:List Int}{n:Nat}{st:Int}{tst:Tok}(hne:0<ns.length)(hst:st.natAbs≤1048576)(SD:Ae base ou s.heap)(X:(Mine.hd.heap_39 w.params).In base)(T:Top Mine.hd.view_39 loose mz mg mb base)
  (hd:dp≤400) (hu:un≤7000) (hd1:s.heap.get? d=some (listOf vs.toArray n)) (hd0:base.get? d=none) (hi:IntsAre vs ns) (h64:ns.length<64) (tok0:∀m t,Value.int m t∈vs→t≠0) (tok1:∀m k t,Value.int m t∈vs→Value.int k t∈vs→m=k)
  (h:∀h' tk' R us,h'.get? R=some (listOf us.toArray 0)→AU us (ns.map (AH st ns))→s.heap.get? R=none→Up (AF ou) [] s.heap h'→Q (.ref R) {s with heap:=h',toks:=tk'}):
  wpAny (model PR w) (AR dp un (some ou) gd) (call (.ref 250) [.ref d] [(Str.ofString "start",.int st tst)]) Q E s:=by
 refine Eh (binds:= [(Str.ofString "data",.ref d),(Str.ofString "key",.none),(Str.ofString "reverse",.bool false),(Str.ofString "ties",.str (Str.ofString "average") 519),(Str.ofString "start",.int st tst)]) hne hst SD X T hd hu hd1 hd0 hi h64 tok0 tok1 ?_ (by simp) ⟨rfl,rfl,rfl,rfl,rfl,trivial⟩ h
 intro oc od fd osl e
 refine' CR e ?k ?_
 (case k=>k_is)
 intro q
 cases q
 k_extra "03F"
theorem Iy {d:Addr}{tt:Tok}(SD:Ae base ou s.heap)(X:(Mine.hd.heap_39 w.params).In base)(T:Top Mine.hd.view_39 loose mz mg mb base)
  (hd:dp≤400) (hu:un≤7000)
  (he:∀h' tk' e,RaisedSN base s.heap ou e (.type "ValueError") [] h'→s.heap.UpToSlots h'→E (.ref e) {s with heap:=h',toks:=tk'}):
  wpAny (model PR w) (AR dp un (some ou) gd) (call (.ref 250) [.ref d] [(Str.ofString "ties",.str (Str.ofString "min") tt)]) Q E s:=by
 refine E1 (binds:= [(Str.ofString "data",.ref d),(Str.ofString "key",.none),(Str.ofString "reverse",.bool false),(Str.ofString "ties",.str (Str.ofString "min") tt),(Str.ofString "start",.int 1 520)]) (tt:=tt) SD X T hd hu ?_ (by simp) ⟨rfl,trivial⟩ he
 intro oc od fd osl e
 refine' CR e ?k ?_
 (case k=>k_is)
 intro q
 cases q
 k_extra "03F"
end
end
section
variable{A₀:Around}{base g g₀ h h':Heap}{ou:List Env}{L R:Addr}{m:Str→Option Value}{nw:List (Addr×Obj)}{o:Obj}
theorem Gnd.add (G:Gnd A₀ base ou g₀ L h m nw g)(U:Up (L::AF ou) [] h h')(f:h.get? R=none)(e:h'.get? R=some o):∃g',Gnd A₀ base ou g₀ L h' m ((R,o)::nw) g':=by
 have fr:=CL G.fr f
 refine G.after U (fun x hx=>(nomatch hx)) _ fun q hq=>?_
 k_extra "07"
 ·exact .inr ⟨e,fr⟩
 ·exact .inl ⟨hq,fun hx=>nomatch hx⟩
theorem Gnd.same (G:Gnd A₀ base ou g₀ L h m nw g)(U:Up (L::AF ou) [] h h'):∃g',Gnd A₀ base ou g₀ L h' m nw g':=
 G.after U (fun x hx=>(nomatch hx)) _ fun q hq=>.inl ⟨hq,fun hx=>nomatch hx⟩
end
theorem DM (st c:Int)(ns:List Int):(ns.map fun x=>x+c).map (AH st (ns.map fun x=>x+c))=ns.map (AH st ns):=by
 rw [List.map_map]
 refine List.map_congr_left fun a _=>?_
 show AH st (ns.map fun x=>x+c) (a+c)=AH st ns a
 unfold AH
 rw [List.countP_map,List.countP_map]
 have e1:((fun m=>decide (m<a+c))∘fun x:Int=>x+c)=fun m=>decide (m<a):=by
  funext x
  show decide (x+c<a+c)=decide (x<a)
  rw [decide_eq_decide];exact Int.add_lt_add_iff_right _
 have e2:((fun m=>decide (m=a+c))∘fun x:Int=>x+c)=fun m=>decide (m=a):=by
  funext x
  show decide (x+c=a+c)=decide (x=a)
  rw [decide_eq_decide];exact Int.add_left_inj _
 rw [e1,e2]
theorem JY (ns:List Int)(st a:Int):EE ns a+2*st-2=AH st ns a:=by
 unfold EE AH rk2
 rw [GJ]
 omega
theorem Do {ns:List Int}{st:Int}(h9:ns.length≤9)(hst:st.natAbs≤65536)(a:Int):(AH st ns a).natAbs<2^40:=by
 unfold AH rk2
 have h1:=List.countP_le_length (p:=fun m=>decide (m<a)) (l:=ns)
 have h2:=List.countP_le_length (p:=fun m=>decide (m=a)) (l:=ns)
 exact Ar.q23 h9 hst h1 h2
section
variable{prog:Program}{w:World}{A:Around}{E:Value→Shared→Prop}{s:Shared}{a b:Addr}{us vs:List Value}{n:Nat}{Q:Value→Shared→Prop}
theorem Hm (ha:s.heap.IsList a us.toArray)(hb:s.heap.IsList b vs.toArray)(h1:us=List.replicate n (.bool true))(h2:vs=List.replicate n (.bool true))(hu:A.units<cLine)(h:Q (.bool false) s):
  wpAny (model prog w) A (compareOp .NotEq (.ref a) (.ref b)) Q E s:=by
 subst h1 h2
 k_extra "01K"
 ·simp only [List.getElem_toArray,List.getElem_replicate]
  have:=SeqAt.EqAt.bool_bool (A:=A.in1) (s:=s) true true
  exact this
 ·have:(!(List.range (List.replicate n (Value.bool true)).toArray.size).all fun _=>true)=false:=by simp
  rw [this]
  exact h
end
section
variable{M:Model}{A:Around}{E:Value→Shared→Prop}{s:Shared}{g:Heap}{L c:Addr}{o:Obj}{m:Str→Option Value}{rest nw:List (Addr×Obj)}{env:Env}{y:Str}{v:Value}{x:Option Value}
theorem FI {Q:Unit→Shared→Prop}(F:Fr g L s.heap m)(N:News g L s.heap ((c,o)::rest))(hne:∀p∈rest,p.1≠c)(hd:o.data= .cell x)(hc:env.cells.lookup y=some c)
  (h:∀h' o',o'.data= .cell (some v)→Fr g L h' m→News g L h' ((c,o')::rest)→Q () {s with heap:=h'})
  (hk:env.scope.kind= .function) (hl:env.kindOf y=some .cell):wpAny M A (storeName env y v) Q E s:=by
 have hN:=N _ (.head _)
 k_extra "039"
 obtain⟨o',e',d'⟩:=hcell
 k_extra "046"
 k_extra "02"
 ·exact⟨e',hN.2⟩
 ·k_extra "02N"
end
noncomputable abbrev tpR (R:Addr)(st:Int)(t:Tok):Obj:={cls:=.type "tuple",data:=.seq #[.ref R,.int st t]}
theorem B9 {g h:Heap}{L c:Addr}{o:Obj}{z:Option Value}{nw:List (Addr×Obj)}{q:Addr×Obj}(N:News g L h nw)(hc:(c,o)∈nw)(d:o.data= .cell z)(hq:q∈nw)(dq:∃vs n,q.2.data= .seq vs n):q.1≠c:=fun e=>by
 have h1:=(N _ hc).1
 have h2:=(N q hq).1
 rw [e] at h2
 rw [h1] at h2
 obtain⟨vs,n,dq⟩:=dq
 rw [←Option.some.inj h2] at dq
 dsimp only at dq
 rw [d] at dq
 cases dq
theorem Ht {ns:List Int}{st:Int}(h9:ns.length≤9)(hst:st.natAbs≤65536)(j:Nat):((ns.map (AH st ns)).getD j 0).natAbs<2^40:=by
 rcases Nat.lt_or_ge j (ns.map (AH st ns)).length with h|h
 ·k_extra "040"
  show((ns.map (AH st ns))[j]).natAbs<2^40
  rw [List.getElem_map]
  exact Do h9 hst _
 ·rw [List.getD_eq_getElem?_getD,List.getElem?_eq_none h]
  decide
theorem KK (ns:List Int)(st:Int):((ns.map (EE ns)).map fun o=>o+2*st-2)=ns.map (AH st ns):=by
 rw [List.map_map]
 exact List.map_congr_left fun a _=>JY ns st a
section
theorem kw_W33_1:True:=by
 k_with "ar"=>((fail_if_success k_extra "oW33");with_reducible first|assumption|exact Ne.symm ‹_›|exact Int.ofNat_lt.mpr ‹_›|exact Nat.zero_le _|exact Int.natCast_nonneg _|exact Ar.q209 ‹_›|exact Ar.r227 ‹_›|exact Ar.r266|exact Ar.r288|exact Ar.r311 ‹_›)
 trivial
section
variable{w:World}{dp un:Nat}{ou:List Env}{gd:Option (List Code)}{s:Shared}{loose:List Str}{mz:ExcName→Option Value}{mg mb:Str→Option Value}{Q E:Value→Shared→Prop}{base:Heap}
theorem kw_W33_2:True:=by
 k_with "Mexec Assign cons ListComp"=>((fail_if_success k_extra "oW33");refine Stop.at ?_)
 k_with "Meval ListComp"=>((fail_if_success k_extra "oW33");refine Stop.at ?_)
 k_with "MpyIter ref"=>((fail_if_success k_extra "oW33");refine Stop.at ?_)
 k_with "MbinaryOp Mult ref int"=>((fail_if_success k_extra "oW33");((rename News _ _ _ _=>q_hn');(refine mul_list_carried (by assumption) q_hn' (q_hn' _ (.head _)).1 (by rfl) (.cons (by constructor) .nil) (by omega) (by omega) (by simp;omega) ?_);intro q_v1 q_v2 q_v3 q_v4 q_v5 q_v6))
 k_with "MpyNext ref"=>((fail_if_success k_extra "oW33");refine Stop.at ?_)
 k_with "Mcall builtin:list.append"=>((fail_if_success k_extra "oW33");refine Stop.at ?_)
 k_with "McompareOp NotEq ref ref"=>((fail_if_success k_extra "oW33");refine Stop.at ?_)
 k_with "Mexec For Tuple List cons cons"=>((fail_if_success k_extra "oW33");refine Stop.at ?_)
 k_with "Mexec For Tuple List cons nil"=>((fail_if_success k_extra "oW33");refine Stop.at ?_)
 k_with "Mexec Try cons cons nil nil"=>((fail_if_success k_extra "oW33");refine wpAny_Try_except ?_)
 trivial
theorem LG {I a b c d e x:Addr×Obj}{rt:List (Addr×Obj)}(h:x∈I::b::a::c::d::e::rt):x∈I::a::b::c::d::e::rt:=
 Bj [0,2,1,3,4,5] 6 rfl h
theorem LF {a b c d e x:Addr×Obj}{rt:List (Addr×Obj)}(h:x∈b::a::c::d::e::rt):x∈a::b::c::d::e::rt:=
 Bj [1,0,2,3,4] 5 rfl h
theorem Fd {x p1 p2 p3 S I a b c e:Addr×Obj}{rt:List (Addr×Obj)}(h:x∈I::S::a::b::c::e::rt):x∈p1::p2::p3::S::I::a::b::c::e::rt:=
 Bj [4,3,5,6,7,8] 9 rfl h
theorem Fc {d:Addr}{vs:List Value}{ns:List Int}{n:Nat}{st:Int}{tst:Tok}(SD:Ae base ou s.heap)(X:(Mine.hd.heap_39 w.params).In base)(T:Top Mine.hd.view_39 loose mz mg mb base)
  (hd:dp≤320) (hu:un≤6000) (hst:st.natAbs≤65536) (hd1:s.heap.get? d=some (listOf vs.toArray n)) (hd0:base.get? d=none) (hi:IntsAre vs ns) (hne:ns.length=9) (hbd:∀x∈ns,x.natAbs<2^40)
  (tok0:∀m t,Value.int m t∈vs→t≠0) (tok1:∀m k t,Value.int m t∈vs→Value.int k t∈vs→m=k)
  (h:∀h' tk',Up (AF ou) [] s.heap h'→Q (.bool true) {s with heap:=h',toks:=tk'}):
  wpAny (model PR w) (AR dp un (some ou) gd) (call (.ref 396) [.ref d,.int st tst]) Q E s:=by
 revert w dp un ou gd s loose mz mg mb Q E base d vs ns n st tst
 as_aux_lemma=>
 intro pick_ w dp un ou gd s loose mz mg mb Q E base d vs ns n st tst
 intro SD X T hd hu hst hd1 hd0 hi hne hbd tok0 tok1 h
 k_extra "0D"
 refine' Er (binds:= [(Str.ofString "row",.ref d),(Str.ofString "first",.int st tst)]) [(d,listOf vs.toArray n)] SD X T ?m ?k6 ?k7 ?k8 ?k9 ?kB ?kD ?_ ?c2 ?c3 ?c4
 k_extra "0k"
 k_extra "0w"
 k_extra "0b"
 k_extra "047"
 k_extra "03s"
 k_cells Y
 k_extra "015"
 dsimp only
 try k_fold
 intro clo_ oC1 oC2 p_ dC1 dC2 N
 k_steps
 obtain⟨m5,c0,c1,hc0,hc1,F5,N5,hm5⟩:Ex3 fun mm c0 c1=>C6 (c0.data= .cell (some (.ref d))) (c1.data= .cell none) (Fr g L' _ mm) (News g L' _ [(L'+1+1,c1),(L'+1,c0),(d,listOf vs.toArray n)]) (Has mm [(Str.ofString "first",.int st tst)]):=
  ⟨_,_,_,by assumption,by assumption,F,N,⟨rfl,trivial⟩⟩
 clear F N
 have F6:=hm5.fr F5
 clear F5 hm5
 have ldN:∀p∈ [(L'+1+1,c1),(L'+1,c0)],@Ne Nat p.1 d:=By (Nat.ne_of_gt (Nat.lt_succ_of_lt (Nat.lt_succ_of_lt (lt _ (.head _))))) (Nat.ne_of_gt (Nat.lt_succ_of_lt (lt _ (.head _))))
 intro clo_ m5 c0 c1 p_ hc0 hc1 N5 F6 ldN
 k_extra "03"
 refine FQ F6 rfl rfl rfl (BI.cell (y:=Str.ofString "a") (fun _=>rfl) (fun _=>rfl)) rfl (by decide) rfl rfl ?_
 k_steps
 k_extra "03"
 refine Ad F6 N5 ⟨_,(N5 _ mm2).1,rfl,n,rfl⟩ fun I h9 F9 N9 l9=>?_
 k_extra "05o"
 k_extra "0t"
 intro g' D C h₁ k1 k2 F10 N10 lD lC lX
 have X2:(Mine.hd.heap_39 w.params).In g':=X'.keeps k1
 have T2:Top Mine.hd.view_39 loose mz mg mb g':=T'.keeps k1
 intro clo_ g' D C h₁ p_ k1 k2 F10 N10 lD lC lX X2 T2
 refine Ai (g':=g') (C:=C) ?_
 refine⟨fun k tk mm nw=>Ex6 fun(i:Nat) (us:List Value) (oI:Obj) (cc:Nat) (oC:Obj) (z:Option Value)=>IY (k+i=9) (nw=(C+1,oC)::(I,oI)::(D,listOf us.toArray cc):: [(L'+1+1,c1),(L'+1,c0),(d,listOf vs.toArray n)]) (oC.data= .cell z) (oI.cls= .type "list_iterator") (oI.data= .fields #[.ref d,.int (i:Nat) 0]) (us.length=i) (IntsAre us ((ns.take i).map (EE ns))),9,_,_,F10,JF N10,⟨0,[],{cls:=.type "list_iterator",data:=.fields #[.ref d,.int 0 0]},0,{cls:=.type "cell",data:=.cell none},none,rfl,rfl,rfl,rfl,rfl,rfl,.nil⟩,?_⟩
 have neI:∀q∈ [(L'+1+1,c1),(L'+1,c0),(d,listOf vs.toArray n)],q.1≠I:=fun q hq=>Nat.ne_of_lt (l9 q hq)
 have neD:∀q∈ [(L'+1+1,c1),(L'+1,c0),(d,listOf vs.toArray n)],q.1≠D:=fun q hq=>Nat.ne_of_lt (lD q (.tail _ hq))
 have neC:∀q∈ [(L'+1+1,c1),(L'+1,c0),(d,listOf vs.toArray n)],q.1≠C+1:=fun q hq=>Nat.ne_of_lt (Nat.lt_succ_of_lt (Nat.lt_trans (lD q (.tail _ hq)) lC))
 k_extra "03b"
 have nIC:@Ne Nat I (C+1):=Nat.ne_of_lt (Nat.lt_succ_of_lt (Nat.lt_trans (lD _ (.head _)) lC))
 have nDC:@Ne Nat D (C+1):=Nat.ne_of_lt (Nat.lt_succ_of_lt lC)
 clear F9 N9 F10 N10 l9 lD k2 lX
 rintro k tk1 m₁ nw₁ h₂ F₂ N₂ ⟨i,us,oI,cc,oC,z,hk,rfl,dC,cI,dI,hul,hus⟩
 intro clo_ k tk1 m₁ h₂ p_ F₂ d_ i us oI cc oC z p_ hk dC cI dI hul hus N₂
 refine Ao rfl F₂ (AM N₂) cI dI ⟨_,(N₂ (d,listOf vs.toArray n) (by simp)).1,rfl,n,rfl⟩ (List.forall_mem_cons.mpr ⟨nIC.symm,List.forall_mem_cons.mpr ⟨nID.symm,neI⟩⟩) ?_ ?_
 ·intro x hx h3 oI' cI' dI' F3 N3
  k_extra "0r"
  have hi9:i<9:=by have:=(List.getElem?_eq_some_iff.mp hx).1;rw [AC hi,hne] at this;exact this
  have ex:x= .int (ns.getD i 0) (BE (vs.getD i .none)):=by
   have:=Bs hi (k:=i) (by exact Ar.rl ‹_› ‹_›)
   rw [hx] at this
   k_extra "02y"
  subst ex
  clear F₂ N₂ hx
  k_extra "05c"
  k_extra "02A"
  k_extra "02k"
  refine Jb F3 (AM N3) (List.forall_mem_cons.mpr ⟨nIC,List.forall_mem_cons.mpr ⟨nDC,neC⟩⟩) dC rfl (fun h4 oC' dC' F4 N4=>?_) rfl rfl
  k_extra "05u"
  clear F3 N3
  intro clo_ h4 oC' p_ dC' F4 N4
  k_steps
  k_extra "03"
  refine BU F4 rfl (BI.plain (by decide) rfl) rfl (by decide) ?_
  k_steps
  k_extra "03"
  refine Ad F4 N4 ⟨_,(N4 (d,listOf vs.toArray n) (by simp)).1,rfl,n,rfl⟩ fun I2 h9 F9 N9 l9=>?_
  k_extra "04I"
  k_extra "0t"
  intro g2 D2 C2 h₁ k3 k2 F10 N10 lD lC2 lX
  intro clo_ g2 D2 C2 h₁ p_ k3 k2 F10 N10 lD lC2 lX
  k_extra "056"
  refine⟨fun k tk mm nw=>Ex4 fun(j:Nat) (zs:List Value) (oK:Obj) (cd:Nat)=>DJ (k+j=9) (nw=(I2,oK)::(D2,listOf zs.toArray cd):: [(C+1,oC'),(I,oI'),(D,listOf us.toArray cc),(L'+1+1,c1),(L'+1,c0),(d,listOf vs.toArray n)]) (oK.cls= .type "list_iterator") (oK.data= .fields #[.ref d,.int (j:Nat) 0]) (zs.length=j) (IntsAre zs ((ns.take j).map (BL (ns.getD i 0)))),9,_,_,F10,AM N10,⟨0,[],{cls:=.type "list_iterator",data:=.fields #[.ref d,.int 0 0]},0,rfl,rfl,rfl,rfl,rfl,.nil⟩,?_⟩
  have neI2:∀q∈ [(C+1,oC'),(I,oI'),(D,listOf us.toArray cc),(L'+1+1,c1),(L'+1,c0),(d,listOf vs.toArray n)],q.1≠I2:=fun q hq=>Nat.ne_of_lt (l9 q hq)
  have neD2:∀q∈ [(C+1,oC'),(I,oI'),(D,listOf us.toArray cc),(L'+1+1,c1),(L'+1,c0),(d,listOf vs.toArray n)],q.1≠D2:=fun q hq=>Nat.ne_of_lt (lD q (.tail _ hq))
  k_extra "02V"
  clear F9 N9 F10 N10 l9 lD k2 lX
  rintro k' tk2 m₂ nw₂ h₅ F₅ N₅ ⟨j,zs,oK,cd,hkj,rfl,cK,dK,hzl,hzs⟩
  intro clo_ k' tk2 m₂ h₅ p_ F₅ d_ j zs oK cd p_ hkj cK dK hzl hzs N₅
  k_extra "0I"
  ·intro x hx h6 oK' cK' dK' F6 N6
   k_extra "0r"
   k_extra "01L"
   have ex:x= .int (ns.getD j 0) (BE (vs.getD j .none)):=by
    have:=Bs hi (k:=j) (by exact Ar.rl ‹_› ‹_›)
    rw [hx] at this
    k_extra "02y"
   subst ex
   clear F₅ N₅ hx
   intro clo_ h6 oK' p_ cK' dK' F6 N6
   k_steps
   all_goals
    k_extra "022"
    k_extra "01b"
    k_extra "03"
    k_extra "01u"
    k_extra "04a"
    refine Az.intro F8 N8 (n':=k'-1) (by exact Ar.cdP ‹_› ‹_›) ⟨j+1,_,oK',cd+1,by exact Ar.cd ‹_› ‹_›,rfl,cK',dK',by rw [List.length_append,hzl];rfl,BW hzs (by exact Ar.rl ‹_› ‹_›) ?_⟩
    unfold BL
    split
    all_goals first
     |(first|decide|omega)
     |(split<;>omega)
  ·intro hx h6 F6 N6
   k_extra "0r"
   k_extra "01f"
   k_extra "054"
   refine⟨rfl,_,_,F6,N6,fun h7 F7 N7=>?_⟩
   clear F₅ N₅ F6 N6
   k_extra "033"
   k_extra "04H"
   k_steps
   k_extra "0S"
   k_extra "0C"
   k_extra "03"
   refine AP F8 N8 (.tail (neD2 (D,listOf us.toArray cc) (by simp)).symm (.tail nDC.symm (.tail nID (.head neD)))) (by exact Ar.upEL ‹_› ‹_› (by rfl)) fun h9 F9 N9=>?_
   intro clo_ h9 p_ F9 N9
   refine Az.intro F9 (fun p hp=>N9 p (.tail _ hp)) (n':=k-1) (by exact Ar.cdP ‹_› ‹_›) ⟨i+1,_,oI',cc+1,oC',_,by exact Ar.cd ‹_› ‹_›,rfl,dC',cI',dI',by rw [List.length_append,hul];rfl,BW hus (by exact Ar.rl ‹_› ‹_›) ?_⟩
   rfl
 ·intro hx h3 F3 N3
  k_extra "0r"
  have hi9:i=9:=by have:=List.getElem?_eq_none_iff.mp hx;rw [AC hi,hne] at this;exact Ar.ce ‹_› ‹_›
  k_extra "01m"
  k_extra "0N"
  have N5:News g L' h4 ((D,listOf us.toArray cc):: [(L'+1+1,c1),(L'+1,c0),(d,listOf vs.toArray n)]):=fun p hp=>N4 p (.tail _ hp)
  rw [hi9,List.take_of_length_le (by exact Ar.upE ‹_› (by rfl))] at hus
  clear F₂ N₂ F3 N3 N4 k1 X2 T2 neC nIC nDC nID hk
  intro clo_ h4 p_ F4 N5
  k_steps
  k_extra "0e"
  k_extra "0a"
  k_extra "03"
  k_extra "02n"
  k_steps
  k_extra "0G"
  k_extra "0x"
  k_extra "03"
  refine Ad F6 N6 ⟨_,(N6 (d,listOf vs.toArray n) (by simp)).1,rfl,n,rfl⟩ fun I2 h9 F9 N9 l9=>?_
  k_extra "04I"
  k_extra "0t"
  intro g2 D2 C2 h₁ k3 k2 F10 N10 lD2 lC2 lX2
  intro clo_ g2 D2 C2 h₁ p_ k3 k2 F10 N10 lD2 lC2 lX2
  k_extra "056"
  refine⟨fun k tk mm nw=>Ex4 fun(j:Nat) (zs:List Value) (oK:Obj) (cd:Nat)=>LR (k+j=9) (nw=(I2,oK)::(D2,listOf zs.toArray cd)::(D,listOf us.toArray cc):: [(L'+1+1,c1),(L'+1,c0),(d,listOf vs.toArray n)]) (oK.cls= .type "list_iterator") (oK.data= .fields #[.ref d,.int (j:Nat) 0]) (zs.length=j) (IntsAre zs ((ns.take j).map fun x=>x+2^80)) (BX 1 zs tk) (1≤tk),9,_,_,F10,AM N10,⟨0,[],{cls:=.type "list_iterator",data:=.fields #[.ref d,.int 0 0]},0,rfl,rfl,rfl,rfl,rfl,.nil,.nil,Nat.le_add_left _ _⟩,?_⟩
  have neI2:∀q∈(D,listOf us.toArray cc):: [(L'+1+1,c1),(L'+1,c0),(d,listOf vs.toArray n)],q.1≠I2:=fun q hq=>Nat.ne_of_lt (l9 q hq)
  have neD2:∀q∈(D,listOf us.toArray cc):: [(L'+1+1,c1),(L'+1,c0),(d,listOf vs.toArray n)],q.1≠D2:=fun q hq=>Nat.ne_of_lt (lD2 q (.tail _ hq))
  have nID2:@Ne Nat I2 D2:=Nat.ne_of_lt (lD2 _ (.head _))
  clear F9 N9 F10 N10 l9 lD2 k2 lX2 hx
  rintro k' tk2 m₂ nw₂ h₅ F₅ N₅ ⟨j,zs,oK,cd,hkj,rfl,cK,dK,hzl,hzs,hft,htk1⟩
  intro clo_ k' tk2 m₂ h₅ p_ F₅ d_ j zs oK cd p_ hkj cK dK hzl hzs hft htk1 N₅
  k_extra "0I"
  ·intro x hx h6 oK' cK' dK' F6 N6
   k_extra "0r"
   k_extra "01L"
   have ex:x= .int (ns.getD j 0) (BE (vs.getD j .none)):=by
    have:=Bs hi (k:=j) (by exact Ar.rl ‹_› ‹_›)
    rw [hx] at this
    k_extra "02y"
   subst ex
   clear F₅ N₅ hx
   intro clo_ h6 oK' p_ cK' dK' F6 N6
   k_extra "02A"
   k_extra "02k"
   refine Aj (Dd F6 N6 (fun h7 tk7 F7 N7 hle=>?_) rfl rfl)
   have hle7:tk2≤tk7:=hle
   clear hle F6 N6
   k_extra "05u"
   intro clo_ h7 tk7 p_ F7 N7 hle7
   k_steps
   k_extra "022"
   k_extra "01b"
   k_extra "03"
   k_extra "01u"
   k_extra "04a"
   refine Az.intro F8 N8 (n':=k'-1) (by exact Ar.cdP ‹_› ‹_›) ⟨j+1,_,oK',cd+1,by exact Ar.cd ‹_› ‹_›,rfl,cK',dK',by rw [List.length_append,hzl];rfl,BW hzs (by exact Ar.rl ‹_› ‹_›) rfl,hft.snoc ?_ ?_ ?_,?_⟩
   all_goals dsimp only
   all_goals first|exact Ar.r277 hle7|omega
  ·intro hx h6 F6 N6
   k_extra "0r"
   k_extra "01f"
   k_extra "054"
   refine⟨rfl,_,_,F6,N6,fun h7 F7 N7=>?_⟩
   clear F₅ N₅ F6 N6
   k_extra "033"
   have zt0:∀m t,Value.int m t∈zs→t≠0:=fun m t hm=>Nat.ne_of_gt (hft.1 m t hm).1
   have zt1:=hft.2
   have hzl9:(ns.map fun x=>x+2^80).length=9:=by rw [List.length_map];exact hne
   clear neI2 neD2 nID2 neI neD lC2 lC ldN hkj cK dK hft htk1 hx
   k_extra "04H"
   k_steps
   k_extra "0S"
   k_extra "0C"
   k_extra "03"
   k_extra "037"
   k_steps
   k_extra "01X"
   k_extra "01p"
   k_extra "03"
   have G0:Gnd (AR dp un (some ou) gd) base ou g L' _ _ _ g:=⟨KtsTurn.refl,F9,N9,B',Dt⟩
   refine Ca (by exact Ar.upGc ‹_› (by rfl)) (As B' Dt F9) X T (show dp+1≤400 by exact Ar.up ‹_› (by rfl)) (show un+3≤7000 by exact Ar.up ‹_› (by rfl)) (N9 (d,listOf vs.toArray n) (by simp)).1 hd0 hi (by exact Ar.upET ‹_› (by rfl)) tok0 tok1 fun h10 tk10 R1 u1 e1 i1 f1 U1=>?_
   intro clo_ h10 tk10 R1 u1 p_ e1 i1 f1 U1
   obtain⟨g1,G1⟩:=G0.add U1 f1 e1
   clear F9 N9 B' Dt X' T' G0 U1 f1 e1
   intro clo_ g1 p_ G1
   obtain⟨t1,F10,N10,B1,D1⟩:=G1
   k_extra "02z"
   k_extra "02b"
   k_steps
   k_extra "05m"
   k_extra "03S"
   k_extra "03"
   have G0:Gnd (AR dp un (some ou) gd) base ou g L' _ _ _ g1:=⟨t1,F11,N11,B1,D1⟩
   refine Ca (ns:=ns.map fun x=>x+2^80) (by exact Ar.upGc ‹_› (by rfl)) (As B1 D1 F11) X T (show dp+1≤400 by exact Ar.up ‹_› (by rfl)) (show un+3≤7000 by exact Ar.up ‹_› (by rfl)) (N11 (D2,listOf zs.toArray cd) (by simp)).1 (fresh_of_stays B1.stays (N11 (D2,listOf zs.toArray cd) (by simp)).2.2) hzs (by exact Ar.upET ‹_› (by rfl)) zt0 zt1 fun h12 tk12 R2 u2 e2 i2 f2 U2=>?_
   rw [DM] at i2
   intro clo_ h12 tk12 R2 u2 p_ e2 i2 f2 U2
   obtain⟨g2',G2⟩:=G0.add U2 f2 e2
   clear F11 N11 B1 D1 X1 P1 G0 U2 f2 e2 t1
   intro clo_ g2' p_ G2
   obtain⟨t2,F12,N12,B2,D2'⟩:=G2
   have X2:(Mine.hd.heap_39 w.params).In g2':=X.keeps B2.stays
   have P2:Top Mine.hd.view_39 loose mz mg mb g2':=T.keeps B2.stays
   k_steps
   rename Fr _ _ _ _=>F13
   k_extra "05n"
   k_extra "03"
   have G0:Gnd (AR dp un (some ou) gd) base ou g L' _ _ _ g2':=⟨t2,F13,N13,B2,D2'⟩
   refine Gj (ns:=ns.map fun x=>x+2^80) (by exact Ar.upGc ‹_› (by rfl)) (by exact Ar.upS ‹_› (by rfl)) (As B2 D2' F13) X T (show dp+1≤400 by exact Ar.up ‹_› (by rfl)) (show un+3≤7000 by exact Ar.up ‹_› (by rfl)) (N13 (D2,listOf zs.toArray cd) (by simp)).1 (fresh_of_stays B2.stays (N13 (D2,listOf zs.toArray cd) (by simp)).2.2) hzs (by exact Ar.upET ‹_› (by rfl)) zt0 zt1 fun h14 tk14 R3 u3 e3 i3 f3 U3=>?_
   rw [DM] at i3
   intro clo_ h14 tk14 R3 u3 p_ e3 i3 f3 U3
   obtain⟨g3',G3⟩:=G0.add U3 f3 e3
   clear F13 N13 B2 D2' X2 P2 G0 U3 f3 e3 t2 zt0 zt1 hzs hzl9
   intro clo_ g3' p_ G3
   obtain⟨t3,F14,N14,B3,D3'⟩:=G3
   have X3:(Mine.hd.heap_39 w.params).In g3':=X.keeps B3.stays
   have P3:Top Mine.hd.view_39 loose mz mg mb g3':=T.keeps B3.stays
   k_steps
   rename Fr _ _ _ _=>F15
   rename News _ _ _ _=>N15
   k_extra "03"
   obtain⟨T1,T2,T3,Lx,v1,v2,v3,rfl,N15b⟩:Ex7 fun T1 T2 T3 Lx v1 v2 v3=>Lx=_∧News g3' L' _ [(Lx,rl [T1,T2,T3] 0),(T3,tpR R3 st v3),(R3,listOf u3.toArray 0),(T2,tpR R2 1 v2),(R2,listOf u2.toArray 0),(T1,tpR R1 1 v1),(R1,listOf u1.toArray 0),(D2,listOf zs.toArray cd),(D,listOf us.toArray cc),(L'+1+1,c1),(L'+1,c0),(d,listOf vs.toArray n)]:=⟨_,_,_,_,_,_,_,rfl,N15⟩
   intro clo_ T1 T2 T3 Lx v1 v2 v3 p_ N15b N15 x_
   obtain⟨m6,ts,rt,F16,N16,hm6,hrt,hts,hsq⟩:Ex3 fun mm ts rt=>DJ (Fr g3' L' _ mm) (News g3' L' _ ((Lx,rl ts 0)::(L'+1+1,c1)::(D,listOf us.toArray cc)::(L'+1,c0)::(d,listOf vs.toArray n)::rt)) (Has mm [(Str.ofString "due",.ref D)]) ((∀(i:Nat) a,ts[i]?=some a→∃R u st' t',(a,tpR R st' t')∈rt∧(R,listOf u.toArray 0)∈rt∧AU u (ns.map (AH st' ns))∧st'.natAbs≤65536)) (ts.length=3) ((∀q∈rt,∃vs n,q.2.data= .seq vs n)):=by
    refine⟨_,[T1,T2,T3],[(T3,tpR R3 st v3),(R3,listOf u3.toArray 0),(T2,tpR R2 1 v2),(R2,listOf u2.toArray 0),(T1,tpR R1 1 v1),(R1,listOf u1.toArray 0)],F15,fun p hp=>N15b p ?_,⟨rfl,trivial⟩,?_,rfl,?_⟩
    ·exact Bj [0,9,8,10,11,1,2,3,4,5,6] 99 rfl hp
    ·exact Cz ⟨R1,u1,1,v1,by k_mem,by k_mem,i1,by decide⟩ (Cz ⟨R2,u2,1,v2,by k_mem,by k_mem,i2,by decide⟩ (Cz ⟨R3,u3,st,v3,by k_mem,by k_mem,i3,hst⟩ IH))
    ·intro q hq
     k_extra "01"
     rcases hq with rfl|rfl|rfl|rfl|rfl|rfl<;>exact⟨_,_,rfl⟩
   clear F15 N15 N15b i1 i2 i3
   intro clo_ m6 ts rt p_ F16 N16 hm6 hrt hts hsq
   refine Ad F16 N16 ⟨_,(N16 _ (.head _)).1,rfl,0,rfl⟩ fun I3 h17 F17 N17 l17=>?_
   have lS:∀q∈(Lx,rl ts 0)::(D,listOf us.toArray cc)::(L'+1,c0)::(d,listOf vs.toArray n)::rt,@Ne Nat q.1 (L'+1+1):=fun q hq=>by
    have hN:=B9 (q:=q) N16 mm1 hc1
    k_extra "07"
    ·exact hN (.head _) ⟨_,_,rfl⟩
    k_extra "07"
    ·exact hN mm2 ⟨_,_,rfl⟩
    k_extra "07"
    ·exact Nat.ne_of_lt (Nat.lt_succ_self _)
    k_extra "07"
    ·exact hN mm4 ⟨_,_,rfl⟩
    ·exact hN (.tail _ (.tail _ (.tail _ (.tail _ (.tail _ hq))))) (hsq q hq)
   clear F16 N16
   intro clo_ I3 h17 p_ F17 N17 l17
   refine⟨fun k mm nw=>Ex4 fun(i:Nat) (oI oS:Obj) (z:Option Value)=>DJ (k+i=3) (nw=(I3,oI)::(L'+1+1,oS)::(Lx,rl ts 0)::(D,listOf us.toArray cc)::(L'+1,c0)::(d,listOf vs.toArray n)::rt) (oI.cls= .type "list_iterator") (oI.data= .fields #[.ref Lx,.int (i:Nat) 0]) (oS.data= .cell z) (Has mm [(Str.ofString "due",.ref D)]),3,_,_,g3',⟨t3,F17,fun p hp=>N17 p (LG hp),B3,D3'⟩,⟨0,{cls:=.type "list_iterator",data:=.fields #[.ref Lx,.int 0 0]},c1,none,rfl,rfl,rfl,rfl,hc1,hm6⟩,?_⟩
   have neI3:∀q∈(L'+1+1,c1)::(Lx,rl ts 0)::(D,listOf us.toArray cc)::(L'+1,c0)::(d,listOf vs.toArray n)::rt,@Ne Nat q.1 I3:=fun q hq=>Nat.ne_of_lt (l17 q (LF hq))
   clear F17 N17 l17 B3 D3' X3 P3 t3 hm6 hc1
   rintro k5 m₅ nw₅ h₅ tk₅ g₅ G₅ ⟨i,oI,oS,z,hk,rfl,cI,dI,dS,hm5⟩
   have F₅:=hm5.fr G₅.fr
   have N₅:=G₅.news
   have B5:=G₅.below
   have D5:=G₅.dicts
   have t5:=G₅.turn
   have X5:(Mine.hd.heap_39 w.params).In g₅:=X.keeps B5.stays
   have P5:Top Mine.hd.view_39 loose mz mg mb g₅:=T.keeps B5.stays
   clear G₅ hm5
   intro clo_ k5 m₅ h₅ tk₅ g₅ i oI oS z p_ hk cI dI dS F₅ N₅ B5 D5 t5 X5 P5
   refine Da rfl F₅ N₅ cI dI ⟨_,(N₅ _ mm2).1,rfl,0,rfl⟩ (fun q hq=>?_) ?_ ?_
   ·k_extra "058"
    k_extra "07"
    ·exact neI3 (L'+1+1,c1) (.head _)
    ·exact neI3 q (.tail _ hq)
   ·intro a ha h6 oI' cI' dI' F6 N6
    k_extra "01l"
    k_extra "04Y"
    intro clo_ a p_ ha d_ h6 oI' p_ cI' dI' F6 N6
    obtain⟨R,u,st',t',hT,hR,hu',hst'⟩:=hrt i a ha
    have hi3:=(List.getElem?_eq_some_iff.mp ha).1
    clear F₅ N₅
    intro clo_ R u st' t' p_ hT hR hu' hst'
    refine wpAny_letOwnedTupleGo_listiter ⟨oI',(N6 _ (.head _)).1,cI',dI'⟩ ?_
    refine unpackN_ F6 N6 ⟨_,(N6 _ (.tail _ (.tail _ (.tail _ (.tail _ (.tail _ (.tail _ hT))))))).1,rfl,0,rfl⟩ rfl rfl rfl fun h7 F7 N7=>?_
    clear F6 N6
    k_extra "04H"
    k_steps
    k_extra "0S"
    k_extra "0C"
    refine FI F8 (AM N8) (List.forall_mem_cons.mpr ⟨(neI3 (L'+1+1,c1) (.head _)).symm,lS⟩) dS rfl (fun h9 oS' dS' F9 N9=>?_) rfl rfl
    have N10:=Ds N9 (.tail _ (.tail _ (.tail _ (.tail _ (.tail _ (.tail _ hR))))))
    clear F8 N8 N9
    have hu9:u.length=9:=by rw [hu'.1,List.length_map];exact hne
    intro clo_ h9 oS' p_ dS' F9 N10
    k_steps
    k_extra "05m"
    k_extra "03S"
    intro clo_ tk
    k_extra "03"
    refine BU F11 rfl (BI.plain (by decide) rfl) rfl (by decide) ?_
    k_steps
    rename Fr _ _ _ _=>F12
    rename News _ _ _ _=>N12
    k_extra "03"
    refine Ad F12 N12 ⟨_,(N12 _ (.head _)).1,rfl,0,rfl⟩ fun I4 h13 F13 N13 l13=>?_
    intro clo_ I4 h13 p_ F13 N13 l13
    refine⟨fun s' hs' Q E hQ=>wpAny_pyIter_listiter (l:=R) (i:=0) ⟨_,hs' _ _ (N13 _ (.head _)).1,rfl,rfl⟩ hQ,_,F13,N13,?_⟩
    intro g6 D4 C4 h14 k3 k2 F14 N14 lD4 lC4 lX4
    have X6:(Mine.hd.heap_39 w.params).In g6:=X5.keeps k3
    have P6:Top Mine.hd.view_39 loose mz mg mb g6:=P5.keeps k3
    intro clo_ g6 D4 C4 h14 p_ k3 k2 F14 N14 lD4 lC4 lX4 X6 P6
    refine Ai (g':=g6) (C:=C4) ?_
    refine⟨fun k tk mm nw=>Ex4 fun(j:Nat) (bs:List Value) (oK:Obj) (cd:Nat)=>C6 (k+j=9) (nw=(I4,oK)::(D4,listOf bs.toArray cd)::(R,listOf u.toArray 0)::(L'+1+1,oS')::(I3,oI')::(Lx,rl ts 0)::(D,listOf us.toArray cc)::(L'+1,c0)::(d,listOf vs.toArray n)::rt) (oK.cls= .type "list_iterator") (oK.data= .fields #[.ref R,.int (j:Nat) 0]) (bs=List.replicate j (.bool true)),9,_,_,F14,AM N14,⟨0,[],{cls:=.type "list_iterator",data:=.fields #[.ref R,.int 0 0]},0,rfl,rfl,rfl,rfl,rfl⟩,?_⟩
    have neI4:∀q∈(R,listOf u.toArray 0)::(L'+1+1,oS')::(I3,oI')::(Lx,rl ts 0)::(D,listOf us.toArray cc)::(L'+1,c0)::(d,listOf vs.toArray n)::rt,q.1≠I4:=fun q hq=>Nat.ne_of_lt (l13 q hq)
    have neD4:∀q∈(R,listOf u.toArray 0)::(L'+1+1,oS')::(I3,oI')::(Lx,rl ts 0)::(D,listOf us.toArray cc)::(L'+1,c0)::(d,listOf vs.toArray n)::rt,q.1≠D4:=fun q hq=>Nat.ne_of_lt (lD4 q (.tail _ hq))
    have nID4:@Ne Nat I4 D4:=Nat.ne_of_lt (lD4 _ (.head _))
    clear F13 N13 F14 N14 l13 lD4 k2 lX4 k3
    rintro k6 tk6 m₆ nw₆ h₁₆ F₆ N₆ ⟨j,bs,oK,cd,hkj,rfl,cK,dK,rfl⟩
    intro clo_ k6 tk6 m₆ h₁₆ p_ F₆ d_ j oK cd p_ hkj cK dK N₆
    refine Ao rfl F₆ N₆ cK dK ⟨_,(N₆ _ mm2).1,rfl,0,rfl⟩ (List.forall_mem_cons.mpr ⟨nID4.symm,neI4⟩) ?_ ?_
    ·intro x hx h17 oK' cK' dK' F17 N17
     k_extra "0r"
     k_extra "02l"
     intro clo_ x p_ hx d_ h17 oK' p_ cK' dK' F17 N17
     obtain⟨kx,tx,rfl⟩:Ex2 fun kx tx=>x= .float (hf kx) tx:=by
      obtain⟨t,e⟩:=hu'.2 j _ (List.getElem?_eq_getElem (by rw [←hu'.1];exact Ar.rl ‹_› ‹_›))
      rw [hx] at e
      exact⟨_,_,Option.some.inj e⟩
     clear F₆ N₆ hx
     intro clo_ kx tx
     k_steps
     rename Fr _ _ _ _=>F18
     rename News _ _ _ _=>N18
     k_extra "03"
     refine AP F18 N18 (.tail nID4 (.head neD4)) (by rw [List.length_replicate];exact Ar.upL ‹_› (by rfl)) fun h19 F19 N19=>?_
     exact Az.intro F19 N19 (n':=k6-1) (by exact Ar.cdP ‹_› ‹_›) ⟨j+1,_,oK',cd+1,by exact Ar.cd ‹_› ‹_›,rfl,cK',dK',List.replicate_succ'.symm⟩
    ·intro hx h17 F17 N17
     k_extra "0r"
     k_extra "026"
     intro clo_ h17 p_ F17 N17
     refine⟨rfl,_,_,F17,N17,fun h18 F18 N18=>?_⟩
     clear F₆ N₆ F17 N17
     subst hj9
     intro clo_ h18 p_ F18 N18
     k_steps
     rename Fr _ _ _ _=>F19
     rename News _ _ _ _=>N19
     rename Heap.IsList _ _ _=>L19
     k_extra "03"
     refine Hm (n:=9) ⟨_,(N19 _ mm1).1,rfl,cd,rfl⟩ L19 rfl (by rw [hne];rfl) (by show un+3<9900;exact Ar.upA ‹_› (by rfl)) ?_
     have N20:News g₅ L' _ ((R,listOf u.toArray 0)::(L'+1+1,oS')::(I3,oI')::(Lx,rl ts 0)::(D,listOf us.toArray cc)::(L'+1,c0)::(d,listOf vs.toArray n)::rt):=fun p hp=>N19 p (.tail _ (.tail _ hp))
     clear N19 L19
     k_steps
     rename Fr _ _ _ _=>F21
     rename News _ _ _ _=>N21
     intro clo_ tk
     k_extra "03"
     refine BU F21 rfl (BI.plain (by decide) rfl) rfl (by decide) ?_
     k_steps
     rename Fr _ _ _ _=>F22
     rename News _ _ _ _=>N22
     k_extra "03"
     refine Ad F22 N22 ⟨_,(N22 _ (.head _)).1,rfl,0,rfl⟩ fun I5 h23 F23 N23 l23=>?_
     intro clo_ I5 h23 p_ F23 N23 l23
     refine⟨fun s' hs' Q E hQ=>wpAny_pyIter_listiter (l:=R) (i:=0) ⟨_,hs' _ _ (N23 _ (.head _)).1,rfl,rfl⟩ hQ,_,F23,N23,?_⟩
     intro g7 D5a C5 h24 k3 k2 F24 N24 lD5 lC5 lX5
     intro clo_ g7 D5a C5 h24 p_ k3 k2 F24 N24 lD5 lC5 lX5
     refine Ai (g':=g7) (C:=C5) ?_
     refine⟨fun k tk mm nw=>Ex4 fun(j:Nat) (qs:List Value) (oK:Obj) (cd:Nat)=>DJ (k+j=9) (nw=(I5,oK)::(D5a,listOf qs.toArray cd)::(R,listOf u.toArray 0)::(L'+1+1,oS')::(I3,oI')::(Lx,rl ts 0)::(D,listOf us.toArray cc)::(L'+1,c0)::(d,listOf vs.toArray n)::rt) (oK.cls= .type "list_iterator") (oK.data= .fields #[.ref R,.int (j:Nat) 0]) (qs.length=j) ((∀i,i<j→∃t,qs[i]?=some (.float (hf (2*(ns.map (AH st' ns)).getD i 0)) t))),9,_,_,F24,AM N24,⟨0,[],{cls:=.type "list_iterator",data:=.fields #[.ref R,.int 0 0]},0,rfl,rfl,rfl,rfl,rfl,fun i hi=>absurd hi (Nat.not_lt_zero _)⟩,?_⟩
     have neI5:∀q∈(R,listOf u.toArray 0)::(L'+1+1,oS')::(I3,oI')::(Lx,rl ts 0)::(D,listOf us.toArray cc)::(L'+1,c0)::(d,listOf vs.toArray n)::rt,q.1≠I5:=fun q hq=>Nat.ne_of_lt (l23 q hq)
     have neD5:∀q∈(R,listOf u.toArray 0)::(L'+1+1,oS')::(I3,oI')::(Lx,rl ts 0)::(D,listOf us.toArray cc)::(L'+1,c0)::(d,listOf vs.toArray n)::rt,q.1≠D5a:=fun q hq=>Nat.ne_of_lt (lD5 q (.tail _ hq))
     have nID5:@Ne Nat I5 D5a:=Nat.ne_of_lt (lD5 _ (.head _))
     clear F23 N23 F24 N24 l23 lD5 k2 lX5 k3 neI4 neD4 nID4 X6 P6
     rintro k7 tk7 m₇ nw₇ h₂₆ F₇ N₇ ⟨j,qs,oK,cd,hkj,rfl,cK,dK,hql,hqs⟩
     intro clo_ k7 tk7 m₇ h₂₆ p_ F₇ d_ j qs oK cd p_ hkj cK dK hql hqs N₇
     refine Ao rfl F₇ N₇ cK dK ⟨_,(N₇ _ mm2).1,rfl,0,rfl⟩ (List.forall_mem_cons.mpr ⟨nID5.symm,neI5⟩) ?_ ?_
     ·intro x hx h27 oK' cK' dK' F27 N27
      k_extra "0r"
      k_extra "02l"
      intro clo_ x p_ hx d_ h27 oK' p_ cK' dK' F27 N27
      obtain⟨tx,rfl⟩:∃tx,x= .float (hf ((ns.map (AH st' ns)).getD j 0)) tx:=by
       have hjl:j<(ns.map (AH st' ns)).length:=by rw [←hu'.1];exact Ar.rl ‹_› ‹_›
       obtain⟨t,e⟩:=hu'.2 j _ (List.getElem?_eq_getElem hjl)
       rw [hx] at e
       refine⟨t,?_⟩
       rw [List.getD_eq_getElem?_getD,List.getElem?_eq_getElem hjl]
       exact Option.some.inj e
      have em:Float64.mul (Float64.ofInt 2) (hf ((ns.map (AH st' ns)).getD j 0))=hf (2*(ns.map (AH st' ns)).getD j 0):=by
       have:((ns.map (AH st' ns)).getD j 0).natAbs<2^40:=Ht (by exact Ar.upE ‹_› (by rfl)) hst' j
       exact Gr (by decide) (by decide) (by exact Ar.upLL ‹_› (by rfl)) (by exact Ar.dbl ‹_› (by rfl))
      clear F₇ N₇ hx
      intro clo_ tx
      k_steps
      rename Fr _ _ _ _=>F28
      rename News _ _ _ _=>N28
      k_extra "03"
      rw [em]
      refine AP F28 N28 (.tail nID5 (.head neD5)) (by exact Ar.upEL ‹_› ‹_› (by rfl)) fun h29 F29 N29=>?_
      exact Az.intro F29 N29 (n':=k7-1) (by exact Ar.cdP ‹_› ‹_›) ⟨j+1,_,oK',cd+1,by exact Ar.cd ‹_› ‹_›,rfl,cK',dK',by rw [List.length_append,hql];rfl,Cb (f:=fun j=>2*(ns.map (AH st' ns)).getD j 0) hql hqs⟩
     ·intro hx h27 F27 N27
      k_extra "0r"
      k_extra "026"
      intro clo_ h27 p_ F27 N27
      refine⟨rfl,_,_,F27,N27,fun h28 F28 N28=>?_⟩
      clear F₇ N₇ F27 N27
      subst hj9
      have hq2:AU qs ((ns.map (AH st' ns)).map fun x=>2*x):=Ei (by rw [List.length_map];exact hne) hql hqs
      intro clo_ h28 p_ F28 N28
      k_steps
      rename Fr _ _ _ _=>F31
      rename News _ _ _ _=>N31
      k_extra "03"
      refine BU F31 rfl (BI.plain (by decide) rfl) rfl (by decide) ?_
      k_steps
      rename Fr _ _ _ _=>F32
      rename News _ _ _ _=>N32
      k_extra "03"
      refine Ad F32 N32 ⟨_,(N32 (D,listOf us.toArray cc) mm5).1,rfl,cc,rfl⟩ fun I8 h33 F33 N33 l33=>?_
      intro clo_ I8 h33 p_ F33 N33 l33
      refine⟨fun s' hs' Q E hQ=>wpAny_pyIter_listiter (l:=D) (i:=0) ⟨_,hs' _ _ (N33 _ (.head _)).1,rfl,rfl⟩ hQ,_,F33,N33,?_⟩
      intro g8 D8 C8 h34 k3 k2 F34 N34 lD8 lC8 lX8
      intro clo_ g8 D8 C8 h34 p_ k3 k2 F34 N34 lD8 lC8 lX8
      refine Ai (g':=g8) (C:=C8) ?_
      refine⟨fun k tk mm nw=>Ex4 fun(j:Nat) (ps:List Value) (oK:Obj) (ce:Nat)=>DJ (k+j=9) (nw=(I8,oK)::(D8,listOf ps.toArray ce)::(D5a,listOf qs.toArray cd)::(R,listOf u.toArray 0)::(L'+1+1,oS')::(I3,oI')::(Lx,rl ts 0)::(D,listOf us.toArray cc)::(L'+1,c0)::(d,listOf vs.toArray n)::rt) (oK.cls= .type "list_iterator") (oK.data= .fields #[.ref D,.int (j:Nat) 0]) (ps.length=j) (IntsAre ps (((ns.map (EE ns)).take j).map fun o=>o+2*st'-2)),9,_,_,F34,AM N34,⟨0,[],{cls:=.type "list_iterator",data:=.fields #[.ref D,.int 0 0]},0,rfl,rfl,rfl,rfl,rfl,.nil⟩,?_⟩
      have neI8:∀q∈(D5a,listOf qs.toArray cd)::(R,listOf u.toArray 0)::(L'+1+1,oS')::(I3,oI')::(Lx,rl ts 0)::(D,listOf us.toArray cc)::(L'+1,c0)::(d,listOf vs.toArray n)::rt,q.1≠I8:=fun q hq=>Nat.ne_of_lt (l33 q hq)
      have neD8:∀q∈(D5a,listOf qs.toArray cd)::(R,listOf u.toArray 0)::(L'+1+1,oS')::(I3,oI')::(Lx,rl ts 0)::(D,listOf us.toArray cc)::(L'+1,c0)::(d,listOf vs.toArray n)::rt,q.1≠D8:=fun q hq=>Nat.ne_of_lt (lD8 q (.tail _ hq))
      have nID8:@Ne Nat I8 D8:=Nat.ne_of_lt (lD8 _ (.head _))
      clear F33 N33 F34 N34 l33 lD8 k2 lX8 k3 neI5 neD5 nID5
      have hdl:(ns.map (EE ns)).length=9:=by rw [List.length_map];exact hne
      rintro k8 tk8 m₈ nw₈ h₃₆ F₈ N₈ ⟨j,ps,oK,ce,hkj,rfl,cK,dK,hpl,hps⟩
      intro clo_ k8 tk8 m₈ h₃₆ p_ F₈ d_ j ps oK ce p_ hkj cK dK hpl hps N₈
      refine Ao rfl F₈ N₈ cK dK ⟨_,(N₈ (D,listOf us.toArray cc) mm7).1,rfl,cc,rfl⟩ (List.forall_mem_cons.mpr ⟨nID8.symm,neI8⟩) ?_ ?_
      ·intro x hx h37 oK' cK' dK' F37 N37
       k_extra "0r"
       have hj9:j<9:=by have:=(List.getElem?_eq_some_iff.mp hx).1;rw [AC hus] at this;exact Ar.rr2 ‹_› ‹_›
       have ex:x= .int ((ns.map (EE ns)).getD j 0) (BE (us.getD j .none)):=by
        have:=Bs hus (k:=j) (by exact Ar.rl ‹_› ‹_›)
        rw [hx] at this
        k_extra "02y"
       subst ex
       clear F₈ N₈ hx
       intro clo_ h37 oK' p_ cK' dK' F37 N37
       k_steps
       rename Fr _ _ _ _=>F38
       rename News _ _ _ _=>N38
       k_extra "03"
       refine AP F38 N38 (.tail nID8 (.head neD8)) (by exact Ar.upEL ‹_› ‹_› (by rfl)) fun h39 F39 N39=>?_
       exact Az.intro F39 N39 (n':=k8-1) (by exact Ar.cdP ‹_› ‹_›) ⟨j+1,_,oK',ce+1,by exact Ar.cd ‹_› ‹_›,rfl,cK',dK',by rw [List.length_append,hpl];rfl,BW hps (by exact Ar.rl ‹_› ‹_›) rfl⟩
      ·intro hx h37 F37 N37
       k_extra "0r"
       have hj9:j=9:=by have:=List.getElem?_eq_none_iff.mp hx;rw [AC hus] at this;exact Ar.ceR ‹_› ‹_› ‹_›
       intro clo_ h37 p_ F37 N37
       refine⟨rfl,_,_,F37,N37,fun h38 F38 N38=>?_⟩
       clear F₈ N₈ F37 N37
       subst hj9
       rw [List.take_of_length_le (by exact Ar.upE ‹_› (by rfl)),KK] at hps
       intro clo_ h38 p_ F38 N38
       k_steps
       rename Fr _ _ _ _=>F39
       rename News _ _ _ _=>N39
       k_extra "03"
       refine Ez ⟨_,(N39 _ mm1).1,rfl,cd,rfl⟩ ⟨_,(N39 _ (.head _)).1,rfl,ce,rfl⟩ hq2 hps (fun x hx=>?_) (by show un+3<9900;exact Ar.upA ‹_› (by rfl)) ?_
       ·intro clo_ x p_ hx
        obtain⟨y,_,rfl⟩:=List.mem_map.mp hx
        have:=Do (ns:=ns) (st:=st') (by exact Ar.upE ‹_› (by rfl)) hst' y
        exact Ar.dbl ‹_› (by rfl)
       ·clear hq2 hqs hps
        k_steps
        rename Fr _ _ _ _=>F40
        rename News _ _ _ _=>N40
        refine DH.intro ⟨t5,F40,fun z hz=>N40 z (Fd hz),B5,D5⟩ (n':=k5-1) (by exact Ar.cdRP ‹_› ‹_› ‹_›) ⟨i+1,oI',oS',_,by exact Ar.cdR ‹_› ‹_› ‹_›,rfl,cI',dI',dS',⟨rfl,trivial⟩⟩
   ·intro hi3 h6 F6 N6
    k_extra "01l"
    k_extra "04Y"
    clear F₅ N₅
    k_extra "054"
    k_steps
    k_extra "03"
    k_extra "022"
    k_extra "01b"
    refine Iy (As B5 D5 F7) X T (show dp+1≤400 by exact Ar.up ‹_› (by rfl)) (show un+3≤7000 by exact Ar.up ‹_› (by rfl)) fun h17 tk17 e17 R17 U17=>?_
    have hdN:=N7 (d,listOf vs.toArray n) mm4
    have R18:=E3 (news:= [(d,listOf vs.toArray n)]) R17 (AL ⟨hdN.1,An (As B5 D5 F7).dicts hdN.1 rfl,hd0⟩)
    have F18:=BP (h':=hideAll _ [d]) F7 [d] (fun b o e hb=>hideAll_get _ e hb) (fun x hx=>by obtain rfl:=List.mem_singleton.mp hx;exact⟨hdN.2.2,hdN.2.1⟩)
    intro clo_ h17 tk17 e17 p_ R17 U17 R18
    refine' IW (T':= "ValueError") (X:= "ValueError") R18 F18 B5 (fun b o e n=>U17 b o (of_hideAll _ e) n) X T D5 ?ex PyProof.Rows.Boot.«ValueError» ?hn PySem.F.isExc_ValueError PySem.F.notTuple_ValueError ?hs ?_
    (case hs=>kts_sub);(case ex=>k_is);(case hn=>decide)
    intro h19 g19 T19 F19 N19 B19 X19 P19 D19
    clear F7 N7 F18 R18 R17 U17
    intro clo_ h19 g19 p_ T19 F19 N19 B19 X19 P19 D19
    k_steps
    dsimp only
    exact h _ _ (Cm (A₀:=AR dp un (some ou) gd) [] keep (t5.trans T19) F19.keep (AL ⟨hd1,An SD.dicts hd1 rfl⟩) (Dk (AL (N19 _ (.head _)).1)))
end
theorem kw_W33_e:True:=by
 k_with "oW33"=>skip
 trivial
end
theorem DN {us:List Value}(h:9≤us.length):slicePick us.toArray none (some 9) none=(us.take 9).toArray:=by
 rw [kmk_pick_nat (a:=0) (b:=9) us.toArray]
 ·simp
 ·unfold sliceBounds
  simp only [List.size_toArray,Option.getD_none]
  have e:(if(9:Int)<0 then(9:Int)+us.length else 9)=9:=if_neg (by decide)
  simp only [gt_iff_lt,show(0:Int)<1 from by decide,if_true,e]
  congr 2
  exact congrArg (max 0) (Int.min_eq_left (Int.ofNat_le.mpr h))
noncomputable def Ak (src:List Value)(T0:Nat)(zs:List Value)(tk:Nat):Prop:=
 (∀m (t:Nat),Value.int m t∈zs→t≠0∧@LT.lt Nat _ t tk)∧(∀m (t:Nat),Value.int m t∈zs→@LT.lt Nat _ t T0→Value.int m t∈src)∧∀m k (t:Nat),@LE.le Nat _ T0 t→Value.int m t∈zs→Value.int k t∈zs→m=k
theorem Ak.nil {src:List Value}{T0 tk:Nat}:Ak src T0 [] tk:=⟨fun _ _ h=>(nomatch h),fun _ _ h=>(nomatch h),fun _ _ _ _ h=>(nomatch h)⟩
theorem Ak.mono {src zs:List Value}{T0 tk tk':Nat}(M:Ak src T0 zs tk)(h:tk≤tk'):Ak src T0 zs tk':=⟨fun m t hm=>⟨(M.1 m t hm).1,Nat.lt_of_lt_of_le (M.1 m t hm).2 h⟩,M.2.1,M.2.2⟩
theorem Ak.own {src zs:List Value}{T0 tk t:Nat}{m:Int}(M:Ak src T0 zs tk)(h:Value.int m t∈src)(h0:t≠0)(h1:t<T0)(h2:T0≤tk):Ak src T0 (zs++ [.int m t]) tk:=by
 k_extra "03p"
 ·k_extra "018"
  ·exact M.1 k u hk
  ·k_extra "02t"
   exact⟨h0,Nat.lt_of_lt_of_le h1 h2⟩
 ·k_extra "018"
  ·exact M.2.1 k u hk hu
  ·rw [List.mem_singleton.mp hk];exact h
 ·k_extra "018"
  ·k_extra "02D"
   ·exact M.2.2 k j u hu hk hj
   ·k_extra "04J"
    rw [e] at hu
    exact absurd h1 (Nat.not_lt_of_le hu)
  ·k_extra "04K"
   rw [e] at hu
   exact absurd h1 (Nat.not_lt_of_le hu)
theorem Ak.new {src zs:List Value}{T0 tk tk' t:Nat}{m:Int}(M:Ak src T0 zs tk)(h0:0<T0)(hT:T0≤tk)(h1:tk≤t)(h2:t<tk'):Ak src T0 (zs++ [.int m t]) tk':=by
 have lt:∀k (u:Nat),Value.int k u∈zs→u≠t:=fun k u hk e=>by
  have:=(M.1 k u hk).2
  rw [e] at this
  exact absurd this (Nat.not_lt_of_le h1)
 k_extra "03p"
 ·k_extra "018"
  ·have:=M.1 k u hk
   k_extra "02p"
  ·k_extra "02t"
   exact⟨Nat.ne_of_gt (Nat.lt_of_lt_of_le h0 (Nat.le_trans hT h1)),h2⟩
 ·k_extra "018"
  ·exact M.2.1 k u hk hu
  ·k_extra "04K"
   rw [e] at hu
   exact absurd hu (Nat.not_lt_of_le (Nat.le_trans hT h1))
 ·k_extra "018"
  ·k_extra "02D"
   ·exact M.2.2 k j u hu hk hj
   ·exact absurd (Value.int.inj (List.mem_singleton.mp hj)).2 (lt k u hk)
  ·have e:=Value.int.inj (List.mem_singleton.mp hk)
   k_extra "02D"
   ·exact absurd e.2 (lt j u hj)
   ·k_extra "03v"
theorem Ak.one {src zs:List Value}{T0 tk:Nat}(M:Ak src T0 zs tk)(h:∀m k t,Value.int m t∈src→Value.int k t∈src→m=k):∀m k t,Value.int m t∈zs→Value.int k t∈zs→m=k:=fun m k t hm hk=>by
 rcases Nat.lt_or_ge t T0 with q|q
 ·exact h m k t (M.2.1 m t hm q) (M.2.1 k t hk q)
 ·exact M.2.2 m k t q hm hk
theorem Io {vs cs:List Value}{T0 T1:Nat}(h0:∀m (t:Nat),Value.int m t∈vs→t≠0∧t<T0)(h1:∀m k t,Value.int m t∈vs→Value.int k t∈vs→m=k)(hc:∀m (t:Nat),Value.int m t∈cs→T0≤t∧t<T1)(hc1:∀m k t,Value.int m t∈cs→Value.int k t∈cs→m=k)(hT:0<T0)(hTT:T0≤T1):
  (∀m (t:Nat),Value.int m t∈(vs++cs).take 9→t≠0∧t<T1)∧∀m k t,Value.int m t∈(vs++cs).take 9→Value.int k t∈(vs++cs).take 9→m=k:=by
 refine⟨fun m t hm=>?_,fun m k t hm hk=>?_⟩
 ·k_extra "03M"
  ·exact⟨(h0 m t hm).1,Nat.lt_of_lt_of_le (h0 m t hm).2 hTT⟩
  ·exact⟨Nat.ne_of_gt (Nat.lt_of_lt_of_le hT (hc m t hm).1),(hc m t hm).2⟩
 ·k_extra "03M"
  ·k_extra "03N"
   ·exact h1 m k t hm hk
   ·exact absurd (h0 m t hm).2 (Nat.not_lt_of_le (hc k t hk).1)
  ·k_extra "03N"
   ·exact absurd (h0 k t hk).2 (Nat.not_lt_of_le (hc m t hm).1)
   ·exact hc1 m k t hm hk
section
variable{prog:Program}{w:World}{A A₀:Around}{E:Value→Shared→Prop}{Q:Flow→Shared→Prop}{s:Shared}{env:Env}{g g₀ base:Heap}{ou:List Env}{L:Addr}{m:Str→Option Value}{nw:List (Addr×Obj)}
inductive HY (prog:Program) (w:World) (A A₀:Around) (base:Heap) (ou:List Env) (g₀:Heap) (L:Addr) (env:Env) (target:PySem.Expr) (body:List Stmt) (Q:Flow→Shared→Prop) (E:Value→Shared→Prop) (it:Value) (s₂:Shared):Prop
 |mk (J:Nat→(Str→Option Value)→List (Addr×Obj)→Prop) (n₀:Nat) (m:Str→Option Value) (nw:List (Addr×Obj)) (g:Heap) (_:Gnd A₀ base ou g₀ L s₂.heap m nw g) (_:J n₀ m nw) (_:∀n m₁ nw₁ h₁ tk₁ g₁,s₂.toks≤tk₁→Gnd A₀ base ou g₀ L h₁ m₁ nw₁ g₁→J n m₁ nw₁→wpAny (model prog w) A (pyNext it) (CO prog w A env target it body Q E (DH A₀ base ou g₀ L s₂ J n)) E {s₂ with heap:=h₁,toks:=tk₁}):HY prog w A A₀ base ou g₀ L env target body Q E it s₂
theorem LO (A₀:Around)(base:Heap)(ou:List Env)(g₀:Heap)(L:Addr){target iter:PySem.Expr}{body:List Stmt}{pos:Pos}
  (h:wpAny (model prog w) A (eval iter env) (fun xv s₁=>wpAny (model prog w) A (pyIter xv) (HY prog w A A₀ base ou g₀ L env target body Q E) E s₁) E s)
  (hs:∀x,foldedSetIterable iter env x=pure x:=by intro _;rfl) (hE:PassesOwn (model prog w) A env E:=by passes_own):
  wpAny (model prog w) A (exec (.For target iter body [] pos) env) Q E s:=by
 k_extra "019"
 obtain⟨J,n₀,m,nw,g,G,hJ,turn⟩:=h₂
 refine codeAny_forLoop_any (R:=fun r s'=>match r with|.ok f=>Q f s'|.error e=>cameBackBy (model prog w) A env E e s') (fun n s'=>∃g₁ h₁ tk₁ m₁ nw₁,s'={s₂ with heap:=h₁,toks:=tk₁}∧s₂.toks≤tk₁∧Gnd A₀ base ou g₀ L h₁ m₁ nw₁ g₁∧J n m₁ nw₁) ?_ n₀ ⟨g,s₂.heap,s₂.toks,m,nw,rfl,Nat.le_refl _,G,hJ⟩
 rintro n s' ⟨g₁,h₁,tk₁,m₁,nw₁,rfl,htk,G₁,J₁⟩
 have up:∀{α:Type} {t:Sem α} {Q':α→Shared→Prop} {s₀:Shared},s₂.toks≤s₀.toks→wpAny (model prog w) A t Q' E s₀→wpAny (model prog w) A t (fun a s'=>s₂.toks≤s'.toks∧Q' a s') E s₀:=fun h0 hw=>
  Aj (wpAny_mono hw (fun _ _ q hl=>⟨Nat.le_trans h0 hl,q⟩) fun _ _ e _=>e)
 refine wpAny_passesOwn hE (wpAny_mono (up (by exact htk) (turn n m₁ nw₁ h₁ tk₁ g₁ htk G₁ J₁)) (fun r s₁ hr=>?_) fun _ _ e=>e)
 obtain⟨l₁,hr⟩:=hr
 cases r with
 |none=>exact wpAny_execs_nil hr
 |some v=>
  refine wpAny_passesOwn hE (wpAny_mono (up l₁ hr) (fun _ s₃ h₃=>?_) fun _ _ e=>e)
  refine wpAny_passesOwn hE (wpAny_mono (up h₃.1 h₃.2) (fun _ s₄ h₄=>?_) fun _ _ e=>e)
  refine wpAny_passesOwn hE (wpAny_mono (up h₄.1 h₄.2) (fun f s₅ h₅=>?_) fun _ _ e=>e)
  obtain⟨l₅,h₅⟩:=h₅
  have fin:DH A₀ base ou g₀ L s₂ J n s₅→∃k,k<n∧∃g₁ h₁ tk₁ m₁ nw₁,s₅={s₂ with heap:=h₁,toks:=tk₁}∧s₂.toks≤tk₁∧Gnd A₀ base ou g₀ L h₁ m₁ nw₁ g₁∧J k m₁ nw₁:=by
   rintro⟨g',h',tk,m₂,nw₂,n',e,G₂,hn,J₂⟩
   refine⟨n',hn,g',h',tk,m₂,nw₂,e,?_,G₂,J₂⟩
   rw [e] at l₅
   exact l₅
  cases f with
  |next=>exact fin h₅
  |cont=>exact fin h₅
  |brk=>exact h₅
  |ret v=>exact h₅
end
theorem Fx {cs:List Value}(h:cs.Pairwise fun a b=>@LT.lt Nat _ (BE a) (BE b)):∀m k t,Value.int m t∈cs→Value.int k t∈cs→m=k:=fun m k t hm hk=>by
 rw [List.pairwise_iff_getElem] at h
 obtain⟨i,hi,ei⟩:=List.mem_iff_getElem.mp hm
 obtain⟨j,hj,ej⟩:=List.mem_iff_getElem.mp hk
 rcases Nat.lt_trichotomy i j with q|q|q
 ·have:=h i j hi hj q
  rw [ei,ej] at this
  exact absurd this (Nat.lt_irrefl _)
 ·subst q
  rw [ei] at ej
  exact(Value.int.inj ej).1
 ·have:=h j i hj hi q
  rw [ei,ej] at this
  exact absurd this (Nat.lt_irrefl _)
theorem GF {vs cs:List Value}{ns ms:List Int}(h:IntsAre vs ns)(h2:IntsAre cs ms)(h9:9≤ms.length):IntsAre ((vs++cs).take 9) ((ns++ms).take 9)∧((ns++ms).take 9).length=9:=by
 have l1:=AC h
 have l2:=AC h2
 have x:=kmk_upto (y:=9) (intsAre_append h h2) (by decide)
 rw [DN (by rw [List.length_append];exact Ar.r201 h9 l2)] at x
 refine⟨x,?_⟩
 rw [List.length_take,List.length_append]
 exact Ar.r207 h9
section
variable{prog:Program}{w:World}{A:Around}{E:Value→Shared→Prop}{s:Shared}{g:Heap}{L:Addr}{m:Str→Option Value}{rest:List (Addr×Obj)}{x:Str}{t:Tok}
theorem KD {Q:Value→Shared→Prop}(F:Fr g L s.heap m)(N:News g L s.heap rest)
  (h:∀I h',Fr g L h' m→News g L h' ((I,{cls:=.type (strIterType x),data:=.fields #[.str x t,.int (0:Nat) 0]})::rest)→(∀p∈rest,p.1<I)→Q (.ref I) {s with heap:=h'}):wpAny (model prog w) A (pyIter (.str x t)) Q E s:=
 wpAny_pyIter_strU (h _ _ (F.push _) (News.push F N _ rfl) fun p hp=>Heap.lt_size (N p hp).1)
theorem Jv {I:Addr}{o:Obj}{i:Nat}{h:Heap}(e:h.get? I=some o)(c:o.cls= .type (strIterType x))(d:o.data= .fields #[.str x t,.int i 0]):Bw prog w A (.ref I) h:=fun s' hs' Q E hQ=>by
 have hit:s'.heap.IsStrIter I (strIterType x) x t i:=⟨o,hs' _ _ e,c,d⟩
 unfold strIterType at hit
 split at hit
 ·exact wpAny_pyIter_striter_ascii hit hQ
 ·exact wpAny_pyIter_striter_wide hit hQ
theorem J4 {I:Addr}{oI:Obj}{k:Nat}{Q:Option Value→Shared→Prop}(hh:A.handled=none)(F:Fr g L s.heap m)(N:News g L s.heap ((I,oI)::rest))(cI:oI.cls= .type (strIterType x))(dI:oI.data= .fields #[.str x t,.int k 0])
  (hne:∀p∈rest,p.1≠I)
  (h1:∀c,x.cps[k]?=some c→∀h' oI',oI'.cls= .type (strIterType x)→oI'.data= .fields #[.str x t,.int (k+1:Nat) 0]→Fr g L h' m→News g L h' ((I,oI')::rest)→Q (some (.str ⟨#[c]⟩ s.toks)) {s with heap:=h',toks:=s.toks+1})
  (h2:x.cps[k]?=none→∀h',Fr g L h' m→News g L h' rest→Q none {s with heap:=h'}):wpAny (model prog w) A (pyNext (.ref I)) Q E s:=by
 have hI:=N _ (.head _)
 have hit:s.heap.IsStrIter I (strIterType x) x t k:=⟨oI,hI.1,cI,dI⟩
 cases e:x.cps[k]? with
 |some c=>
  have go:∀h' oI',h'.get? I=some oI'→oI'.cls= .type (strIterType x)→oI'.data= .fields #[.str x t,.int (k+1:Nat) 0]→Heap.SameBut I s.heap h'→Q (some (.str ⟨#[c]⟩ s.toks)) {s with heap:=h',toks:=s.toks+1}:=fun h' o' eo c' d' hs'=>by
   refine h1 c e h' o' c' d' (F.change hs' hI.2.1 hI.2.2) fun p hp=>?_
   k_extra "02"
   ·exact⟨eo,hI.2⟩
   ·k_extra "0u"
  by_cases ha:x.cps.all (· <128)=true
  ·k_extra "04x"
   rw [es] at hit
   refine wpAny_pyNext_ascii_item hit e fun h' hit' hs'=>?_
   k_extra "04o"
   exact go h' o' eo (by rw [es];exact c') d' hs'
  ·have es:strIterType x= "str_iterator":=if_neg ha
   rw [es] at hit
   refine wpAny_pyNext_wide_item hit e fun h' hit' hs'=>?_
   k_extra "04o"
   exact go h' o' eo (by rw [es];exact c') d' hs'
 |none=>
  have go:∀h',Heap.ExtBut I s.heap h'→Q none {s with heap:=h'}:=fun h' he'=>by
   k_extra "0c"
   ·k_extra "02d"
    k_extra "01C"
   ·have:=hI.2.2
    k_extra "048"
  by_cases ha:x.cps.all (· <128)=true
  ·k_extra "04x"
   rw [es] at hit
   exact wpAny_pyNext_ascii_end hh hit e go
  ·have es:strIterType x= "str_iterator":=if_neg ha
   rw [es] at hit
   exact wpAny_pyNext_wide_end hh hit e go
end
theorem Hk {x:Str}(h:x.cps.size=10):(Txt.slice x (some 1) none).cps.size=9∧∀j:Nat,(Txt.slice x (some 1) none).cps[j]?=x.cps[j+1]?:=by
 have e:Builtin.Str.strSliceIndices (some 1) none 1 10= [1,2,3,4,5,6,7,8,9]:=by decide+kernel
 unfold Txt.slice
 have hl:x.length=10:=h
 rw [hl,e]
 rw [if_neg (by decide)]
 obtain⟨⟨l⟩⟩:=x
 clear hl
 revert l
 refine lsC fun a0=>lsC fun a1=>lsC fun a2=>lsC fun a3=>lsC fun a4=>lsC fun a5=>lsC fun a6=>lsC fun a7=>lsC fun a8=>lsC fun a9=>lsN ?_
 exact⟨rfl,fun j=>(List.getElem?_toArray (xs:= [a1,a2,a3,a4,a5,a6,a7,a8,a9]) (i:=j)).trans (List.getElem?_toArray (xs:= [a0,a1,a2,a3,a4,a5,a6,a7,a8,a9]) (i:=j+1)).symm⟩
noncomputable def AA (b:Int)(j:Nat):Bool:=decide (b/2^(8-j)% 2=1)
theorem FN (n k:Nat):n&&&2^k=(n.testBit k).toNat*2^k:=by
 apply Nat.eq_of_testBit_eq
 intro i
 rw [Nat.testBit_and,Nat.testBit_two_pow]
 by_cases hk:k=i
 ·subst hk
  cases h:n.testBit k
  ·simp
  ·simp [Nat.testBit_two_pow]
 ·cases h:n.testBit k
  ·simp [hk]
  ·simp [Nat.testBit_two_pow,hk]
theorem HV (n k:Nat):Builtin.bitAnd (n:Int) ((2^k:Nat):Int)=(((n.testBit k).toNat*2^k:Nat):Int):=by
 show((n&&&2^k:Nat):Int)=_
 rw [FN]
theorem KM (n a c:Nat):Builtin.bitAnd (n:Int) ((2^a|||2^c:Nat):Int)=(((n.testBit a).toNat*2^a|||(n.testBit c).toNat*2^c:Nat):Int):=by
 show((n&&&(2^a|||2^c):Nat):Int)=_
 rw [Nat.and_or_distrib_left,FN,FN]
theorem De (n k:Nat):n.testBit k=decide ((n:Int)/2^k % 2=1):=by
 rw [Nat.testBit_eq_decide_div_mod_eq,decide_eq_decide]
 have:((n:Int)/2^k % 2)=((n/2^k % 2:Nat):Int):=by simp
 rw [this]
 exact⟨congrArg Int.ofNat,Int.ofNat.inj⟩
noncomputable def Kb (c:Nat):Bool:=c==114||c==119||c==120||c==115||c==116
noncomputable def HR (c:Nat):Bool:=c==115||c==83||c==116||c==84
theorem BD (n i k c:Nat)(h:tbl.getD i []= [(((2^k:Nat):Int),c)]):sgn n i=if n.testBit k then c else 45:=by
 unfold sgn
 rw [h]
 simp only [List.find?_cons,List.find?_nil,HV]
 cases n.testBit k
 ·have:¬(((Bool.toNat false*2^k:Nat):Int)=((2^k:Nat):Int)):=by
   simp only [Bool.toNat_false,Nat.zero_mul]
   have:=Nat.two_pow_pos k
   exact fun e=>absurd (Int.ofNat.inj e) (Nat.ne_of_lt this)
  rw [decide_eq_false this];rfl
 ·have:(((Bool.toNat true*2^k:Nat):Int)=((2^k:Nat):Int)):=by simp
  rw [decide_eq_true this];rfl
theorem Av (n i k l c1 c2 c3:Nat)(hk:k<12)(hl:l<12)(hkl:k≠l)(h:tbl.getD i []= [(((2^k|||2^l:Nat):Int),c1),(((2^k:Nat):Int),c2),(((2^l:Nat):Int),c3)]):
  sgn n i=if n.testBit k then(if n.testBit l then c1 else c2) else(if n.testBit l then c3 else 45):=by
 unfold sgn
 rw [h]
 simp only [List.find?_cons,List.find?_nil,HV,KM]
 have key:∀k l:Fin 12,k≠l→∀p q:Bool,decide ((((p.toNat*2^k.1|||q.toNat*2^l.1:Nat):Int))=((2^k.1|||2^l.1:Nat):Int))=(p&&q):=by decide+kernel
 have k1:∀k:Fin 12,∀p:Bool,decide ((((p.toNat*2^k.1:Nat):Int))=((2^k.1:Nat):Int))=p:=by decide+kernel
 rw [key ⟨k,hk⟩ ⟨l,hl⟩ (fun e=>hkl (Fin.mk.inj e)),k1 ⟨k,hk⟩,k1 ⟨l,hl⟩]
 cases n.testBit k<;>cases n.testBit l<;>rfl
theorem Js (n j:Nat)(hj:j<9):Kb (sgn n (j+1))=AA n j:=by
 unfold AA
 rw [←De]
 revert j
 k_extra "02a"
 ·rw [BD n 1 8 114 rfl];cases n.testBit 8<;>rfl
 ·rw [BD n 2 7 119 rfl];cases n.testBit 7<;>rfl
 ·rw [Av n 3 11 6 115 83 120 (by decide) (by decide) (by decide) rfl];cases n.testBit 11<;>cases n.testBit 6<;>rfl
 ·rw [BD n 4 5 114 rfl];cases n.testBit 5<;>rfl
 ·rw [BD n 5 4 119 rfl];cases n.testBit 4<;>rfl
 ·rw [Av n 6 10 3 115 83 120 (by decide) (by decide) (by decide) rfl];cases n.testBit 10<;>cases n.testBit 3<;>rfl
 ·rw [BD n 7 2 114 rfl];cases n.testBit 2<;>rfl
 ·rw [BD n 8 1 119 rfl];cases n.testBit 1<;>rfl
 ·rw [Av n 9 9 0 116 84 120 (by decide) (by decide) (by decide) rfl];cases n.testBit 9<;>cases n.testBit 0<;>rfl
theorem Jt (n:Nat):HR (sgn n 3)=decide ((n:Int)/2^11 % 2=1)∧HR (sgn n 6)=decide ((n:Int)/2^10 % 2=1)∧HR (sgn n 9)=decide ((n:Int)/2^9 % 2=1):=by
 rw [←De,←De,←De,Av n 3 11 6 115 83 120 (by decide) (by decide) (by decide) rfl,Av n 6 10 3 115 83 120 (by decide) (by decide) (by decide) rfl,Av n 9 9 0 116 84 120 (by decide) (by decide) (by decide) rfl]
 refine⟨?_,?_,?_⟩
 ·cases n.testBit 11<;>cases n.testBit 6<;>rfl
 ·cases n.testBit 10<;>cases n.testBit 3<;>rfl
 ·cases n.testBit 9<;>cases n.testBit 0<;>rfl
theorem DZ (n j:Nat)(hj:j<9):sgn n (j+1)∈ [45,83,84,114,115,116,119,120]:=by
 revert j
 k_extra "02a"
 ·rw [BD n 1 8 114 rfl];cases n.testBit 8<;>decide
 ·rw [BD n 2 7 119 rfl];cases n.testBit 7<;>decide
 ·rw [Av n 3 11 6 115 83 120 (by decide) (by decide) (by decide) rfl];cases n.testBit 11<;>cases n.testBit 6<;>decide
 ·rw [BD n 4 5 114 rfl];cases n.testBit 5<;>decide
 ·rw [BD n 5 4 119 rfl];cases n.testBit 4<;>decide
 ·rw [Av n 6 10 3 115 83 120 (by decide) (by decide) (by decide) rfl];cases n.testBit 10<;>cases n.testBit 3<;>decide
 ·rw [BD n 7 2 114 rfl];cases n.testBit 2<;>decide
 ·rw [BD n 8 1 119 rfl];cases n.testBit 1<;>decide
 ·rw [Av n 9 9 0 116 84 120 (by decide) (by decide) (by decide) rfl];cases n.testBit 9<;>cases n.testBit 0<;>decide
theorem JT:∀c∈ [45,83,84,114,115,116,119,120],(!(Builtin.Str.occurrences (Str.ofString "rwxst") ⟨#[c]⟩ 0 (Str.ofString "rwxst").length 1).isEmpty)=Kb c:=by decide+kernel
theorem FD:∀c∈ [45,83,84,114,115,116,119,120],(!(Builtin.Str.occurrences (Str.ofString "sStT") ⟨#[c]⟩ 0 (Str.ofString "sStT").length 1).isEmpty)=HR c:=by decide+kernel
section
variable{prog:Program}{w:World}{A:Around}{E:Value→Shared→Prop}{s:Shared}{a b:Addr}{us vs:List Value}{Q:Value→Shared→Prop}
theorem Dl {bl:List Bool}(ha:s.heap.IsList a us.toArray)(hb:s.heap.IsList b vs.toArray)(h1:us=bl.map Value.bool)(h2:vs=bl.map Value.bool)(hu:A.units<cLine)(h:Q (.bool false) s):
  wpAny (model prog w) A (compareOp .NotEq (.ref a) (.ref b)) Q E s:=by
 subst h1 h2
 k_extra "01K"
 ·simp only [List.getElem_toArray,List.getElem_map]
  have:=SeqAt.EqAt.bool_bool (A:=A.in1) (s:=s) (bl[j]'(by simpa using h1)) (bl[j]'(by simpa using h1))
  rw [beq_self_eq_true] at this
  exact this
 ·have:(!(List.range (bl.map Value.bool).toArray.size).all fun _=>true)=false:=by simp
  rw [this]
  exact h
end
theorem I1 (b:Int){i:Nat}(hi:i<9):(Int.fdiv b (2^(8-(i:Int)).toNat)% 2==1)=AA b i:=by
 rw [show(8-(i:Int)).toNat=8-i by exact Ar.r18 hi,Int.fdiv_eq_ediv_of_nonneg _ (Int.le_of_lt (Int.pow_pos (by decide)))]
 rfl
theorem LL (b:Int)(k:Nat):(Int.fdiv b (2^k)% 2==1)=decide (b/2^k % 2=1):=by
 rw [Int.fdiv_eq_ediv_of_nonneg _ (Int.le_of_lt (Int.pow_pos (by decide)))]
 rfl
noncomputable def Fp (b:Int)(j:Nat):Bool:=decide (b/2^(11-j)% 2=1)
theorem JR {sx:Str}{b:Int}(hx:sx.cps.size=10)(hs:∀j,1≤j→j<10→sx.cps[j]?=some (sgn b j)){i:Nat}(hi:i<3):Txt.item sx (3*((i:Int)+1))=⟨#[sgn b (3*(i+1))]⟩:=by
 have h1:=hs (3*(i+1)) (by omega) (by exact Nat.lt_of_le_of_lt (Nat.mul_le_mul_left 3 (Nat.succ_le_of_lt hi)) (by decide))
 have hl:sx.length=10:=hx
 have e:Txt.charAt sx (3*((i:Int)+1))=some (sgn b (3*(i+1))):=by
  unfold Txt.charAt
  rw [show 3*((i:Int)+1)=((3*(i+1):Nat):Int) by exact rfl,seqIndex_of (Int.natCast_nonneg _) (by rw [hl];exact Ar.q305 hi),Int.toNat_natCast,Option.bind_some]
  exact h1
 unfold Txt.item
 rw [e]
 rfl
theorem JS {sx:Str}{bn:Nat}(hx:sx.cps.size=10)(hs:∀j,1≤j→j<10→sx.cps[j]?=some (sgn bn j)){i:Nat}(hi:i<3):
  (!(Builtin.Str.occurrences (Str.ofString "sStT") (Txt.item sx (3*((i:Int)+1))) 0 (Str.ofString "sStT").length 1).isEmpty)=Fp bn i:=by
 rw [JR hx hs hi]
 obtain⟨s1,s2,s3⟩:=Jt bn
 have H:∀i,i<3→(!(Builtin.Str.occurrences (Str.ofString "sStT") {cps:= #[sgn bn (3*(i+1))]} 0 (Str.ofString "sStT").length 1).isEmpty)=Fp bn i:=
  ltS (ltS (ltS lt0 ((FD _ (DZ bn 2 (by decide))).trans s1)) ((FD _ (DZ bn 5 (by decide))).trans s2)) ((FD _ (DZ bn 8 (by decide))).trans s3)
 exact H i hi
section
theorem kw_W36_1:True:=by
 k_with "ar"=>((fail_if_success k_extra "oW36");with_reducible first|assumption|exact Ne.symm ‹_›|exact Int.ofNat_lt.mpr ‹_›|exact Nat.zero_le _|exact Int.natCast_nonneg _|exact Ar.q234 ‹_› ‹_›|exact Ar.q289 ‹_›|exact Ar.r76 ‹_› ‹_› ‹_›|exact Ar.r106 ‹_› ‹_›|exact Ar.r165 ‹_›|exact Ar.r176 ‹_› ‹_›|exact Ar.r152 ‹_› ‹_›|exact Ar.r161 ‹_›|exact Ar.r162 ‹_›|exact Ar.r171 ‹_› ‹_›|exact Ar.r258 ‹_›|exact Ar.r259 ‹_›|exact Ar.r232 ‹_›)
 trivial
section
variable{w:World}{dp un:Nat}{ou:List Env}{gd:Option (List Code)}{s:Shared}{loose:List Str}{mz:ExcName→Option Value}{mg mb:Str→Option Value}{Q:Flow→Shared→Prop}{E:Value→Shared→Prop}{base g:Heap}{L':Addr}{m:Str→Option Value}{name qual:Str}{params:Arguments}{body:List Stmt}{scope:Scope}{dV kV doc pm cdv ct oc:Value}{an od:Option Addr}{osl:Array (Option Value)}
theorem kw_W36_2:True:=by
 k_with "Meval ListComp"=>((fail_if_success k_extra "oW36");refine Stop.at ?_)
 k_with "MpyIter ref"=>((fail_if_success k_extra "oW36");refine Stop.at ?_)
 k_with "MpyNext ref"=>((fail_if_success k_extra "oW36");refine Stop.at ?_)
 k_with "MpyIter str"=>((fail_if_success k_extra "oW36");refine Stop.at ?_)
 k_with "Mcall builtin:list.append"=>((fail_if_success k_extra "oW36");refine Stop.at ?_)
 k_with "McompareOp NotEq ref ref"=>((fail_if_success k_extra "oW36");refine Stop.at ?_)
 k_with "Mexecs cons Assign cons"=>((fail_if_success k_extra "oW36");refine Stop.at ?_)
 k_with "Mexecs cons If cons"=>((fail_if_success k_extra "oW36");refine Stop.at ?_)
 k_with "Mexecs cons If"=>((fail_if_success k_extra "oW36");refine Stop.at ?_)
 trivial
theorem FX {x a b:Addr×Obj}{r:List (Addr×Obj)}(h:x∈a::r):x∈a::b::r:=
 Bj [0] 2 rfl h
theorem IA {d V:Addr}{vs zs:List Value}{n cc:Nat}{b:Int}{tb tsx:Tok}{sx:Str}{cV cB cS cC cT cM cD:Obj}
  (hlook:(Mine.hd.heap_39 w.params).lookup 401=some ⟨oc,od,.func (fnOf name qual params body scope dV kV doc pm an cdv ct),osl⟩)
  (hd:dp≤310) (hu:un≤2000) (X':(Mine.hd.heap_39 w.params).In g) (T':Top Mine.hd.view_39 loose mz mg mb g)
  (F:Fr g L' s.heap m) (N:News g L' s.heap [(V,listOf zs.toArray cc),(L'+1+1+1+1+1+1+1,cD),(L'+1+1+1+1+1+1,cM),(L'+1+1+1+1+1,cT),(L'+1+1+1+1,cC),(L'+1+1+1,cS),(L'+1+1,cB),(L'+1,cV),(d,listOf vs.toArray n)])
  (hcV:cV.data= .cell (some (.ref V))) (hcB:cB.data= .cell (some (.int b tb))) (hcS:cS.data= .cell (some (.str sx tsx))) (hcC:cC.data= .cell none) (hcT:cT.data= .cell none) (hcM:cM.data= .cell none) (hcD:cD.data= .cell none)
  (lV:@LT.lt Nat _ (L'+1+1+1+1+1+1+1) V) (ld:@LT.lt Nat _ d L')
  (hb0:0≤b∧b<65536) (hx10:sx.cps.size=10) (hsg:∀j,1≤j→j<10→sx.cps[j]?=some (sgn b j))
  (next:∀h' tk' Ch bs cb oC,Fr g L' h' m→News g L' h' [(Ch,listOf bs.toArray cb),(V,listOf zs.toArray cc),(L'+1+1+1+1+1+1+1,cD),(L'+1+1+1+1+1+1,cM),(L'+1+1+1+1+1,cT),(L'+1+1+1+1,oC),(L'+1+1+1,cS),(L'+1+1,cB),(L'+1,cV),(d,listOf vs.toArray n)]→oC.data= .cell (some (.ref Ch))→bs=(List.range 9).map (fun j=>Value.bool (AA b j))→@LT.lt Nat _ V Ch→s.toks≤tk'→
   wpAny (model PR w) ((AR dp un (some ou) gd).deeper (envOfC qual scope L' 401 cdv)) (execs (body.drop 6) (envOfC qual scope L' 401 cdv)) Q E {s with heap:=h',toks:=tk'}):
  wpAny (model PR w) ((AR dp un (some ou) gd).deeper (envOfC qual scope L' 401 cdv)) (execs (body.drop 3) (envOfC qual scope L' 401 cdv)) Q E s:=by
 revert w dp un ou gd s loose mz mg mb Q E g L' m name qual params body scope dV kV doc pm cdv ct oc an od osl d V vs zs n cc b tb tsx sx cV cB cS cC cT cM cD
 as_aux_lemma=>
 intro pick_ w dp un ou gd s loose mz mg mb Q E g L' m name qual params body scope dV kV doc pm cdv ct oc an od osl d V vs zs n cc b tb tsx sx cV cB cS cC cT cM cD
 intro hlook hd hu X' T' F N hcV hcB hcS hcC hcT hcM hcD lV ld hb0 hx10 hsg next
 k_extra "04p"
 (case k=>k_is)
 intro q
 cases q
 clear hlook
 change wpAny _ _ (execs (_::_) _) _ _ _
 k_extra "0O"
 k_steps
 k_extra "03"
 refine BU F rfl (BI.plain (by decide) rfl) rfl (by decide) ?_
 k_steps
 k_extra "0e"
 k_extra "0a"
 k_extra "03"
 obtain⟨hy9,hyc⟩:=Hk hx10
 generalize Txt.slice sx (some 1) none=y at*
 intro clo_ y p_ x_ hy9 hyc
 refine KD F5 N5 fun I h9 F9 N9 l9=>?_
 k_extra "05o"
 refine⟨Jv (N9 _ (.head _)).1 rfl rfl,_,F9,N9,?_⟩
 intro g2 D C h₁ k1 k2 F10 N10 lD lC lX
 intro clo_ g2 D C h₁ p_ k1 k2 F10 N10 lD lC lX
 k_extra "05d"
 refine⟨fun k tk mm nw=>Ex4 fun(i:Nat) (bs:List Value) (oI:Obj) (cd:Nat)=>C6 (k+i=9) (nw=(I,oI)::(D,listOf bs.toArray cd):: [(V,listOf zs.toArray cc),(L'+1+1+1+1+1+1+1,cD),(L'+1+1+1+1+1+1,cM),(L'+1+1+1+1+1,cT),(L'+1+1+1+1,cC),(L'+1+1+1,cS),(L'+1+1,cB),(L'+1,cV),(d,listOf vs.toArray n)]) (oI.cls= .type (strIterType y)) (oI.data= .fields #[.str y _,.int (i:Nat) 0]) (bs=(List.range i).map (fun j=>Value.bool (AA b j))),9,_,_,F10,AM N10,⟨0,[],_,0,rfl,rfl,rfl,rfl,rfl⟩,?_⟩
 have neI:∀q∈ [(V,listOf zs.toArray cc),(L'+1+1+1+1+1+1+1,cD),(L'+1+1+1+1+1+1,cM),(L'+1+1+1+1+1,cT),(L'+1+1+1+1,cC),(L'+1+1+1,cS),(L'+1+1,cB),(L'+1,cV),(d,listOf vs.toArray n)],q.1≠I:=fun q hq=>Nat.ne_of_lt (l9 q hq)
 have neD:∀q∈ [(V,listOf zs.toArray cc),(L'+1+1+1+1+1+1+1,cD),(L'+1+1+1+1+1+1,cM),(L'+1+1+1+1+1,cT),(L'+1+1+1+1,cC),(L'+1+1+1,cS),(L'+1+1,cB),(L'+1,cV),(d,listOf vs.toArray n)],q.1≠D:=fun q hq=>Nat.ne_of_lt (lD q (.tail _ hq))
 k_extra "03b"
 have lVD:@LT.lt Nat _ V D:=lD (V,listOf zs.toArray cc) mm1
 clear F9 N9 F10 N10 l9 lD k2 lX lC
 rintro k tk1 m₁ nw₁ h₂ F₂ N₂ ⟨i,bs,oI,cd,hk,rfl,cI,dI,hbs⟩
 have hbl:bs.length=i:=by rw [hbs];simp
 intro clo_ k tk1 m₁ h₂ p_ F₂ d_ i bs oI cd p_ hk cI dI hbs N₂ hbl
 refine J4 rfl F₂ N₂ cI dI (List.forall_mem_cons.mpr ⟨nID.symm,neI⟩) ?_ ?_
 ·intro c hc h3 oI' cI' dI' F3 N3
  k_extra "0r"
  have hi9:i<9:=by have:=(Array.getElem?_eq_some_iff.mp hc).1;exact Ar.rr2 ‹_› ‹_›
  have hcs:(!(Builtin.Str.occurrences (Str.ofString "rwxst") ⟨#[c]⟩ 0 (Str.ofString "rwxst").length 1).isEmpty)=AA b i:=by
   rw [hyc,hsg (i+1) (by exact Ar.q573) (by exact Nat.succ_lt_succ hi9)] at hc
   obtain rfl:=Option.some.inj hc
   k_extra "027"
   exact(JT _ (DZ bn i hi9)).trans (Js bn i hi9)
  clear F₂ N₂ hc
  intro clo_ c h3 oI' p_ cI' dI' F3 N3 hcs
  k_steps
  k_extra "022"
  k_extra "01b"
  k_extra "03"
  k_extra "0n"
  k_extra "04a"
  refine Az.intro F8 N8 (n':=k-1) (by exact Ar.cdP ‹_› ‹_›) ⟨i+1,_,oI',cd+1,by exact Ar.cd ‹_› ‹_›,rfl,cI',dI',?_⟩
  rw [hbs,List.range_succ,List.map_append]
  k_extra "05p"
  rw [hcs]
  rfl
 ·intro hc h3 F3 N3
  k_extra "0r"
  have hi9:i=9:=by have:=Array.getElem?_eq_none_iff.mp hc;exact Ar.ceR ‹_› ‹_› ‹_›
  k_extra "01m"
  k_extra "0N"
  k_extra "04y"
  subst hi9
  k_extra "03L"
  k_steps
  k_extra "0e"
  k_extra "0a"
  k_extra "03"
  obtain⟨oC,hoC,N6⟩:∃oC,oC.data= .cell (some (.ref D))∧News g L' _ [(D,listOf bs.toArray cd),(V,listOf zs.toArray cc),(L'+1+1+1+1+1+1+1,cD),(L'+1+1+1+1+1+1,cM),(L'+1+1+1+1+1,cT),(L'+1+1+1+1,oC),(L'+1+1+1,cS),(L'+1+1,cB),(L'+1,cV),(d,listOf vs.toArray n)]:=⟨_,by assumption,N5⟩
  clear N5
  k_extra "04q"
  dsimp only at hl1
  intro clo_ oC p_ hoC N6
  k_extra "0O"
  k_steps
  k_extra "0e"
  k_extra "0x"
  k_extra "03"
  refine BU F5 rfl (BI.plain (by decide) rfl) rfl (by decide) ?_
  k_steps
  k_extra "022"
  k_extra "01b"
  rename IsRange _ _ _ _ _ _ _ _=>R7
  k_extra "03"
  refine Bf F7 N7 R7 (Int.le_refl 0) (by decide) (by decide) fun I2 h8 F8 N8 l8=>?_
  clear F7 N7 R7
  intro clo_ I2 h8 p_ F8 N8 l8
  refine⟨fun s' hs' Q E hQ=>wpAny_pyIter_rangeiter (hs' _ _ (N8 _ (.head _)).1) hQ,_,F8,N8,?_⟩
  intro g3 D2 C2 h₁ k1 k2 F10 N10 lD lC lX
  intro clo_ g3 D2 C2 h₁ p_ k1 k2 F10 N10 lD lC lX
  refine Ai (g':=g3) (C:=C2) ?_
  refine⟨fun k tk mm nw=>Ex3 fun(i:Nat) (qs:List Value) (ce:Nat)=>Ea (k+i=9) (nw=(I2,AJ i (9-i) 1)::(D2,listOf qs.toArray ce):: [(D,listOf bs.toArray cd),(V,listOf zs.toArray cc),(L'+1+1+1+1+1+1+1,cD),(L'+1+1+1+1+1+1,cM),(L'+1+1+1+1+1,cT),(L'+1+1+1+1,oC),(L'+1+1+1,cS),(L'+1+1,cB),(L'+1,cV),(d,listOf vs.toArray n)]) (qs=(List.range i).map (fun j=>Value.bool (AA b j))),9,_,_,F10,AM N10,⟨0,[],0,rfl,rfl,rfl⟩,?_⟩
  have neI:∀q∈ [(D,listOf bs.toArray cd),(V,listOf zs.toArray cc),(L'+1+1+1+1+1+1+1,cD),(L'+1+1+1+1+1+1,cM),(L'+1+1+1+1+1,cT),(L'+1+1+1+1,oC),(L'+1+1+1,cS),(L'+1+1,cB),(L'+1,cV),(d,listOf vs.toArray n)],q.1≠I2:=fun q hq=>Nat.ne_of_lt (l8 q hq)
  have neD:∀q∈ [(D,listOf bs.toArray cd),(V,listOf zs.toArray cc),(L'+1+1+1+1+1+1+1,cD),(L'+1+1+1+1+1+1,cM),(L'+1+1+1+1+1,cT),(L'+1+1+1+1,oC),(L'+1+1+1,cS),(L'+1+1,cB),(L'+1,cV),(d,listOf vs.toArray n)],q.1≠D2:=fun q hq=>Nat.ne_of_lt (lD q (.tail _ hq))
  k_extra "02Z"
  clear F8 N8 F10 N10 l8 lD k2 lX lC hc
  rintro k2' tk2 m₂ nw₂ h₃ F₃ N₃ ⟨i,qs,ce,hk2,rfl,hqs⟩
  have hql:qs.length=i:=by rw [hqs];simp
  intro clo_ k2' tk2 m₂ h₃ p_ F₃ d_ i qs ce p_ hk2 hqs N₃ hql
  refine BK rfl F₃ N₃ (List.forall_mem_cons.mpr ⟨nID.symm,neI⟩) ?_ ?_
  ·intro hlt h3 F4 N4
   k_extra "0r"
   have hi9:i<9:=by exact Ar.q16 hk2 hlt
   rw [show(i:Int)+1=((i+1:Nat):Int) by exact Ar.zs,show(9:Int)-i-1=9-((i+1:Nat):Int) by omega] at N4
   clear F₃ N₃
   intro clo_ h3 p_ F4 N4
   k_steps
   k_extra "0e"
   k_extra "0a"
   k_extra "03"
   refine AP F5 N5 (.tail nID (.head neD)) (by exact Ar.upEL ‹_› ‹_› (by rfl)) fun h6 F6 N6=>?_
   k_extra "054"
   refine Az.intro F6 N6 (n':=k2'-1) (by exact Ar.cdP ‹_› ‹_›) ⟨i+1,_,ce+1,by exact Ar.cd ‹_› ‹_›,rfl,?_⟩
   rw [hqs,List.range_succ,List.map_append]
   k_extra "05p"
   rw [I1 b hi9]
   rfl
  ·intro hge h3 F4 N4
   k_extra "0r"
   intro clo_ h3 p_ F4 N4
   refine⟨rfl,_,_,F4,N4,fun h5 F5 N5=>?_⟩
   intro clo_ h5 p_ F5 N5
   obtain rfl:i=9:=by exact Ar.q33 hk2 hge
   clear F₃ N₃ F4 N4
   k_steps
   k_extra "0G"
   k_extra "0x"
   k_extra "03"
   refine Dl (bl:=(List.range 9).map (AA b)) ⟨_,(N6 _ mm1).1,rfl,cd,rfl⟩ ⟨_,(N6 _ (.head _)).1,rfl,ce,rfl⟩ (by rw [hbs,List.map_map];rfl) (by rw [hqs,List.map_map];rfl) (by show un+3<9900;exact Ar.upA ‹_› (by rfl)) ?_
   have N7:News g L' _ [(D,listOf bs.toArray cd),(V,listOf zs.toArray cc),(L'+1+1+1+1+1+1+1,cD),(L'+1+1+1+1+1+1,cM),(L'+1+1+1+1+1,cT),(L'+1+1+1+1,oC),(L'+1+1+1,cS),(L'+1+1,cB),(L'+1,cV),(d,listOf vs.toArray n)]:=fun p hp=>N6 p (.tail _ hp)
   clear N6 hqs neI neD nID
   k_steps
   k_extra "03"
   rename _≤Shared.toks _=>hl2
   dsimp only at hl2
   k_extra "0O"
   k_steps
   k_extra "0S"
   k_extra "0C"
   k_extra "03"
   k_extra "012"
   k_steps
   k_extra "01X"
   k_extra "01p"
   k_extra "03"
   obtain⟨Le,e1,e2,e3,rfl,N10⟩:Ex4 fun Le e1 e2 e3=>Le=_∧News g L' _ ((Le,listOf [.int 3 e1,.int 6 e2,.int 9 e3].toArray 0):: [(D,listOf bs.toArray cd),(V,listOf zs.toArray cc),(L'+1+1+1+1+1+1+1,cD),(L'+1+1+1+1+1+1,cM),(L'+1+1+1+1+1,cT),(L'+1+1+1+1,oC),(L'+1+1+1,cS),(L'+1+1,cB),(L'+1,cV),(d,listOf vs.toArray n)]):=⟨_,_,_,_,rfl,N9⟩
   clear N9
   intro clo_ Le e1 e2 e3 p_ N10 x_
   refine Ad F9 N10 ⟨_,(N10 _ (.head _)).1,rfl,0,rfl⟩ fun I3 h11 F11 N11 l11=>?_
   intro clo_ I3 h11 p_ F11 N11 l11
   refine⟨fun s' hs' Q E hQ=>wpAny_pyIter_listiter (l:=Le) (i:=0) ⟨_,hs' _ _ (N11 _ (.head _)).1,rfl,rfl⟩ hQ,_,F11,N11,?_⟩
   intro g4 D3 C3 h₁ k1' k2 F12 N12 lD lC lX
   intro clo_ g4 D3 C3 h₁ p_ k1' k2 F12 N12 lD lC lX
   refine Ai (g':=g4) (C:=C3) ?_
   refine⟨fun k tk mm nw=>Ex4 fun(i:Nat) (qs:List Value) (oI:Obj) (ce:Nat)=>C6 (k+i=3) (nw=(I3,oI)::(D3,listOf qs.toArray ce)::(Le,listOf [.int 3 e1,.int 6 e2,.int 9 e3].toArray 0):: [(D,listOf bs.toArray cd),(V,listOf zs.toArray cc),(L'+1+1+1+1+1+1+1,cD),(L'+1+1+1+1+1+1,cM),(L'+1+1+1+1+1,cT),(L'+1+1+1+1,oC),(L'+1+1+1,cS),(L'+1+1,cB),(L'+1,cV),(d,listOf vs.toArray n)]) (oI.cls= .type "list_iterator") (oI.data= .fields #[.ref Le,.int (i:Nat) 0]) (qs=(List.range i).map (fun j=>Value.bool (Fp b j))),3,_,_,F12,AM N12,⟨0,[],{cls:=.type "list_iterator",data:=.fields #[.ref Le,.int 0 0]},0,rfl,rfl,rfl,rfl,rfl⟩,?_⟩
   have neI:∀q∈(Le,listOf [.int 3 e1,.int 6 e2,.int 9 e3].toArray 0):: [(D,listOf bs.toArray cd),(V,listOf zs.toArray cc),(L'+1+1+1+1+1+1+1,cD),(L'+1+1+1+1+1+1,cM),(L'+1+1+1+1+1,cT),(L'+1+1+1+1,oC),(L'+1+1+1,cS),(L'+1+1,cB),(L'+1,cV),(d,listOf vs.toArray n)],q.1≠I3:=fun q hq=>Nat.ne_of_lt (l11 q hq)
   have neD:∀q∈(Le,listOf [.int 3 e1,.int 6 e2,.int 9 e3].toArray 0):: [(D,listOf bs.toArray cd),(V,listOf zs.toArray cc),(L'+1+1+1+1+1+1+1,cD),(L'+1+1+1+1+1+1,cM),(L'+1+1+1+1+1,cT),(L'+1+1+1+1,oC),(L'+1+1+1,cS),(L'+1+1,cB),(L'+1,cV),(d,listOf vs.toArray n)],q.1≠D3:=fun q hq=>Nat.ne_of_lt (lD q (.tail _ hq))
   k_extra "030"
   clear F11 N11 F12 N12 l11 lD k2 lX lC
   k_extra "027"
   have hsl:sx.length=10:=hx10
   intro clo_ bn p_ hcB hb0 hsg next hbs
   rintro k3' tk3 m₃ nw₃ h₄ F₄ N₄ ⟨i,qs2,oI2,ce2,hk3,rfl,cI,dI,hqs2⟩
   have hql2:qs2.length=i:=by rw [hqs2];simp
   intro clo_ k3' tk3 m₃ h₄ p_ F₄ d_ i qs2 oI2 ce2 p_ hk3 cI dI hqs2 N₄ hql2
   refine Ao rfl F₄ N₄ cI dI ⟨_,(N₄ _ mm2).1,rfl,0,rfl⟩ (List.forall_mem_cons.mpr ⟨nID.symm,neI⟩) ?_ ?_
   ·intro v hv h5 oI' cI' dI' F5 N5
    k_extra "0r"
    clear F₄ N₄
    have hi3:i<3:=(List.getElem?_eq_some_iff.mp hv).1
    have hc3:∃ev,v= .int (3*((i:Int)+1)) ev:=by
     exact Cz (P:=fun i v=>∃ev,v=Value.int (3*((i:Int)+1)) ev) ⟨_,rfl⟩ (Cz ⟨_,rfl⟩ (Cz ⟨_,rfl⟩ IH)) i v hv
    intro clo_ v p_ hv d_ h5 oI' p_ cI' dI' F5 N5 hc3
    obtain⟨ev,rfl⟩:=hc3
    clear hv
    intro clo_ ev
    k_steps
    k_extra "0G"
    k_extra "0x"
    k_extra "03"
    k_extra "01y"
    k_extra "04H"
    refine Az.intro F7 N7 (n':=k3'-1) (by exact Ar.cdP ‹_› ‹_›) ⟨i+1,_,oI',ce2+1,by exact Ar.cd ‹_› ‹_›,rfl,cI',dI',?_⟩
    rw [hqs2,List.range_succ,List.map_append]
    k_extra "05p"
    rw [JS hx10 hsg hi3]
    rfl
   ·intro hv h5 F5 N5
    k_extra "0r"
    intro clo_ h5 p_ F5 N5
    refine⟨rfl,_,_,F5,N5,fun h6 F6 N6=>?_⟩
    k_extra "054"
    k_extra "01Y"
    have N7:News g L' h6 ((D3,listOf qs2.toArray ce2):: [(D,listOf bs.toArray cd),(V,listOf zs.toArray cc),(L'+1+1+1+1+1+1+1,cD),(L'+1+1+1+1+1+1,cM),(L'+1+1+1+1+1,cT),(L'+1+1+1+1,oC),(L'+1+1+1,cS),(L'+1+1,cB),(L'+1,cV),(d,listOf vs.toArray n)]):=fun p hp=>N6 p (FX hp)
    clear F₄ N₄ F5 N5 N6 neI neD nID
    k_steps
    k_extra "0S"
    k_extra "0C"
    k_extra "03"
    k_extra "012"
    k_steps
    k_extra "01X"
    k_extra "01p"
    k_extra "03"
    obtain⟨Lf,f1,f2,f3,rfl,N10⟩:Ex4 fun Lf f1 f2 f3=>Lf=_∧News g L' _ ((Lf,listOf [.int 11 f1,.int 10 f2,.int 9 f3].toArray 0)::(D3,listOf qs2.toArray ce2):: [(D,listOf bs.toArray cd),(V,listOf zs.toArray cc),(L'+1+1+1+1+1+1+1,cD),(L'+1+1+1+1+1+1,cM),(L'+1+1+1+1+1,cT),(L'+1+1+1+1,oC),(L'+1+1+1,cS),(L'+1+1,cB),(L'+1,cV),(d,listOf vs.toArray n)]):=⟨_,_,_,_,rfl,N9⟩
    clear N9
    intro clo_ Lf f1 f2 f3 p_ N10 x_
    refine Ad F9 N10 ⟨_,(N10 _ (.head _)).1,rfl,0,rfl⟩ fun I4 h11 F11 N11 l11=>?_
    intro clo_ I4 h11 p_ F11 N11 l11
    refine⟨fun s' hs' Q E hQ=>wpAny_pyIter_listiter (l:=Lf) (i:=0) ⟨_,hs' _ _ (N11 _ (.head _)).1,rfl,rfl⟩ hQ,_,F11,N11,?_⟩
    intro g5 D4 C4 h₁ k1' k2 F12 N12 lD lC lX
    intro clo_ g5 D4 C4 h₁ p_ k1' k2 F12 N12 lD lC lX
    refine Ai (g':=g5) (C:=C4) ?_
    refine⟨fun k tk mm nw=>Ex4 fun(i:Nat) (qs:List Value) (oI:Obj) (ce:Nat)=>C6 (k+i=3) (nw=(I4,oI)::(D4,listOf qs.toArray ce)::(Lf,listOf [.int 11 f1,.int 10 f2,.int 9 f3].toArray 0)::(D3,listOf qs2.toArray ce2):: [(D,listOf bs.toArray cd),(V,listOf zs.toArray cc),(L'+1+1+1+1+1+1+1,cD),(L'+1+1+1+1+1+1,cM),(L'+1+1+1+1+1,cT),(L'+1+1+1+1,oC),(L'+1+1+1,cS),(L'+1+1,cB),(L'+1,cV),(d,listOf vs.toArray n)]) (oI.cls= .type "list_iterator") (oI.data= .fields #[.ref Lf,.int (i:Nat) 0]) (qs=(List.range i).map (fun j=>Value.bool (Fp bn j))),3,_,_,F12,AM N12,⟨0,[],{cls:=.type "list_iterator",data:=.fields #[.ref Lf,.int 0 0]},0,rfl,rfl,rfl,rfl,rfl⟩,?_⟩
    have neI:∀q∈(Lf,listOf [.int 11 f1,.int 10 f2,.int 9 f3].toArray 0)::(D3,listOf qs2.toArray ce2):: [(D,listOf bs.toArray cd),(V,listOf zs.toArray cc),(L'+1+1+1+1+1+1+1,cD),(L'+1+1+1+1+1+1,cM),(L'+1+1+1+1+1,cT),(L'+1+1+1+1,oC),(L'+1+1+1,cS),(L'+1+1,cB),(L'+1,cV),(d,listOf vs.toArray n)],q.1≠I4:=fun q hq=>Nat.ne_of_lt (l11 q hq)
    have neD:∀q∈(Lf,listOf [.int 11 f1,.int 10 f2,.int 9 f3].toArray 0)::(D3,listOf qs2.toArray ce2):: [(D,listOf bs.toArray cd),(V,listOf zs.toArray cc),(L'+1+1+1+1+1+1+1,cD),(L'+1+1+1+1+1+1,cM),(L'+1+1+1+1+1,cT),(L'+1+1+1+1,oC),(L'+1+1+1,cS),(L'+1+1,cB),(L'+1,cV),(d,listOf vs.toArray n)],q.1≠D4:=fun q hq=>Nat.ne_of_lt (lD q (.tail _ hq))
    k_extra "04B"
    clear F11 N11 F12 N12 l11 lD k2 lX lC
    rintro k4' tk4 m₄ nw₄ h₅ F₅ N₅ ⟨i,qs3,oI3,ce3,hk4,rfl,cI,dI,hqs3⟩
    have hql3:qs3.length=i:=by rw [hqs3];simp
    intro clo_ k4' tk4 m₄ h₅ p_ F₅ d_ i qs3 oI3 ce3 p_ hk4 cI dI hqs3 N₅ hql3
    refine Ao rfl F₅ N₅ cI dI ⟨_,(N₅ _ mm2).1,rfl,0,rfl⟩ (List.forall_mem_cons.mpr ⟨nID.symm,neI⟩) ?_ ?_
    ·intro v hv h5 oI' cI' dI' F5 N5
     k_extra "0r"
     clear F₅ N₅
     have hi3:i<3:=(List.getElem?_eq_some_iff.mp hv).1
     have hc3:∃ev,v= .int (11-(i:Int)) ev:=by
      exact Cz (P:=fun i v=>∃ev,v=Value.int (11-(i:Int)) ev) ⟨_,rfl⟩ (Cz ⟨_,rfl⟩ (Cz ⟨_,rfl⟩ IH)) i v hv
     intro clo_ v p_ hv d_ h5 oI' p_ cI' dI' F5 N5 hc3
     obtain⟨ev,rfl⟩:=hc3
     clear hv
     intro clo_ ev
     k_steps
     k_extra "0G"
     k_extra "0x"
     k_extra "03"
     k_extra "01y"
     k_extra "04H"
     refine Az.intro F7 N7 (n':=k4'-1) (by exact Ar.cdP ‹_› ‹_›) ⟨i+1,_,oI',ce3+1,by exact Ar.cd ‹_› ‹_›,rfl,cI',dI',?_⟩
     rw [hqs3,List.range_succ,List.map_append]
     k_extra "05p"
     rw [show(11-(i:Int)).toNat=11-i by exact Ar.r19 hk4 hi3,LL]
     rfl
    ·intro hv h5 F5 N5
     k_extra "0r"
     intro clo_ h5 p_ F5 N5
     refine⟨rfl,_,_,F5,N5,fun h6 F6 N6=>?_⟩
     k_extra "054"
     k_extra "01Y"
     have N7:News g L' h6 ((D4,listOf qs3.toArray ce3)::(D3,listOf qs2.toArray ce2):: [(D,listOf bs.toArray cd),(V,listOf zs.toArray cc),(L'+1+1+1+1+1+1+1,cD),(L'+1+1+1+1+1+1,cM),(L'+1+1+1+1+1,cT),(L'+1+1+1+1,oC),(L'+1+1+1,cS),(L'+1+1,cB),(L'+1,cV),(d,listOf vs.toArray n)]):=fun p hp=>N6 p (FX hp)
     clear F₅ N₅ F5 N5 N6 neI neD nID
     k_steps
     k_extra "0S"
     k_extra "0C"
     k_extra "03"
     refine Dl (bl:=(List.range 3).map (Fp bn)) ⟨_,(N8 _ mm1).1,rfl,ce2,rfl⟩ ⟨_,(N8 _ (.head _)).1,rfl,ce3,rfl⟩ (by rw [hqs2,List.map_map];rfl) (by rw [hqs3,List.map_map];rfl) (by show un+3<9900;exact Ar.upA ‹_› (by rfl)) ?_
     have N9:News g L' _ [(D,listOf bs.toArray cd),(V,listOf zs.toArray cc),(L'+1+1+1+1+1+1+1,cD),(L'+1+1+1+1+1+1,cM),(L'+1+1+1+1+1,cT),(L'+1+1+1+1,oC),(L'+1+1+1,cS),(L'+1+1,cB),(L'+1,cV),(d,listOf vs.toArray n)]:=fun p hp=>N8 p (.tail _ (.tail _ hp))
     clear N8 hqs2 hqs3
     k_steps
     k_extra "03"
     k_extra "05m"
     k_extra "03S"
     rename _≤Shared.toks _=>hl3
     dsimp only at hl3
     exact next _ _ D bs cd oC F11 N11 hoC hbs lVD (Nat.le_trans hl1 (Nat.le_trans hl2 hl3))
end
theorem kw_W36_e:True:=by
 k_with "oW36"=>skip
 trivial
end
section
variable{prog:Program}{w:World}{A:Around}{E:Value→Shared→Prop}{s:Shared}{h₀:Heap}{L:Addr}{news:List (Addr×Obj)}
theorem Bm {value slice:PySem.Expr}{d:Addr}{vs:List Value}{n:Nat}{k:Int}{u:Tok}{v:Value}{Q:Value→Shared→Prop}(N:News h₀ L s.heap news)(hm:(d,listOf vs.toArray n)∈news)(h0:0≤k)(hfit:k<2^63)(hx:vs[k.toNat]?=some v)(h:Q v s)
  (hs:subscripted slice false (.ref d) (.int k u)=operate [.ref d,.int k u] (getItem (.ref d) (.int k u)):=by with_unfolding_all rfl):
  wpAny (model prog w) A (subscriptTail value slice (.ref d) (.int k u)) Q E s:=by
 k_extra "03z"
 exact tail_any hl.typeIs slot_list_getitem.lookup (wpAny_getItem_list hl h0 hfit (by simpa using hx) h) hs
end
noncomputable def AE (VN:List Int)(p:Nat→Bool)(i:Nat):List Int:=((List.range i).filter p).map fun j=>VN.getD j 0
theorem Dp {VN:List Int}{p:Nat→Bool}{i:Nat}(h:p i=true):AE VN p (i+1)=AE VN p i++ [VN.getD i 0]:=by
 unfold AE
 k_extra "01T"
 simp [h]
theorem Ej {VN:List Int}{p:Nat→Bool}{i:Nat}(h:p i=false):AE VN p (i+1)=AE VN p i:=by
 unfold AE
 k_extra "01T"
 simp [h]
theorem BV (VN:List Int)(p:Nat→Bool)(i:Nat):(AE VN p i).length≤i:=by
 unfold AE
 rw [List.length_map]
 exact Nat.le_trans (List.length_filter_le _ _) (by simp)
theorem BN {b:Int}{i:Nat}(hi:i<9):((List.range 9).map fun j=>Value.bool (AA b j))[((i:Nat):Int).toNat]?=some (Value.bool (AA b i)):=by
 simp [hi]
theorem Bb {us:List Value}{ns ms:List Int}{v:Int}{t:Tok}(h:IntsAre us ns)(e:ms=ns++ [v]):IntsAre (us++ [.int v t]) ms:=by
 rw [e];exact Em h v t
theorem IJ {mN tN:List Int}{i:Nat}(hi:i<mN.length):AG (mN.take (i+1)) tN=AG (mN.take i) tN++tN.map fun y=>mN.getD i 0-y:=by
 have e:mN.take (i+1)=mN.take i++ [mN.getD i 0]:=by
  rw [List.take_add_one]
  simp [hi]
 unfold AG
 rw [e,List.flatMap_append]
 simp
theorem KI {tN G:List Int}{x:Int}{j:Nat}(hj:j<tN.length):G++(tN.take (j+1)).map (fun y=>x-y)=(G++(tN.take j).map fun y=>x-y)++ [x-tN.getD j 0]:=by
 have e:tN.take (j+1)=tN.take j++ [tN.getD j 0]:=by
  rw [List.take_add_one]
  simp [hj]
 rw [e,List.map_append,←List.append_assoc]
 rfl
theorem EA (p:Nat→Bool):∀l:List Nat,(l.filter p).length+(l.filter fun j=>!p j).length=l.length
 | []=>rfl
 |a::r=>by
  have ih:=EA p r
  cases h:p a<;>simp [List.filter_cons,h]<;>(first|exact Ar.r313 ih|exact congrArg Nat.succ ih)
theorem I7 (VN:List Int)(p:Nat→Bool):(AE VN p 9).length+(AE VN (fun j=>!p j) 9).length=9:=by
 unfold AE
 rw [List.length_map,List.length_map,EA,List.length_range]
theorem HM {VN:List Int}{B:Nat}(hB:0<B)(h:∀x∈VN,x.natAbs<B)(p:Nat→Bool)(i:Nat):∀x∈AE VN p i,x.natAbs<B:=fun x hx=>by
 obtain⟨j,_,rfl⟩:=List.mem_map.mp hx
 rcases Nat.lt_or_ge j VN.length with q|q
 ·rw [List.getD_eq_getElem?_getD,List.getElem?_eq_getElem q]
  exact h _ (List.getElem_mem q)
 ·rw [List.getD_eq_getElem?_getD,List.getElem?_eq_none q]
  exact hB
theorem KJ {mN tN:List Int}(h1:∀x∈mN,x.natAbs<2^40)(h2:∀x∈tN,x.natAbs<2^40):∀x∈AG mN tN,x.natAbs<2^50:=fun x hx=>by
 obtain⟨a,ha,hx⟩:=List.mem_flatMap.mp hx
 obtain⟨b,hb,rfl⟩:=List.mem_map.mp hx
 have:=h1 a ha
 have:=h2 b hb
 exact Ar.dbD ‹_› ‹_› (by rfl)
theorem En {mN tN:List Int}(h:mN.length+tN.length=9)(hne:AG mN tN≠ []):1≤mN.length∧1≤tN.length∧∃H,(AG mN tN).length=2*H∧1≤H∧H<32:=by
 have hl:=Bo mN tN
 have h0:(AG mN tN).length≠0:=fun e=>hne (List.eq_nil_of_length_eq_zero e)
 generalize mN.length=a at*
 generalize tN.length=c at*
 obtain rfl:c=9-a:=by exact Ar.q198 h
 have ha:a<10:=by exact Ar.r192 h
 have key:∀a:Fin 10,a.1*(9-a.1)≠0→1≤a.1∧1≤9-a.1∧a.1*(9-a.1)=2*(a.1*(9-a.1)/2)∧1≤a.1*(9-a.1)/2∧a.1*(9-a.1)/2<32:=by decide
 obtain⟨k1,k2,k3,k4,k5⟩:=key ⟨a,ha⟩ (by rw [←hl];exact h0)
 exact⟨k1,k2,_,hl.trans k3,k4,k5⟩
section
theorem kw_W37_1:True:=by
 k_with "ar"=>((fail_if_success k_extra "oW37");with_reducible first|assumption|exact Ne.symm ‹_›|exact Int.ofNat_lt.mpr ‹_›|exact Nat.zero_le _|exact Int.natCast_nonneg _|exact Ar.q112 ‹_› ‹_› ‹_›|exact Ar.q124 ‹_› ‹_›|exact Ar.q173 ‹_› ‹_› ‹_› ‹_›|exact Ar.q191 ‹_› ‹_› ‹_›|exact Ar.q233 ‹_› ‹_›|exact Ar.q246 ‹_›|exact Ar.q287 ‹_›|exact Ar.r224 ‹_›)
 trivial
section
variable{w:World}{dp un:Nat}{ou:List Env}{gd:Option (List Code)}{s:Shared}{loose:List Str}{mz:ExcName→Option Value}{mg mb:Str→Option Value}{Q:Flow→Shared→Prop}{E:Value→Shared→Prop}{base g:Heap}{L':Addr}{m:Str→Option Value}{name qual:Str}{params:Arguments}{body:List Stmt}{scope:Scope}{dV kV doc pm cdv ct oc:Value}{an od:Option Addr}{osl:Array (Option Value)}
theorem kw_W37_2:True:=by
 k_with "Meval ListComp"=>((fail_if_success k_extra "oW37");refine Stop.at ?_)
 k_with "MpyIter ref"=>((fail_if_success k_extra "oW37");refine Stop.at ?_)
 k_with "MpyNext ref"=>((fail_if_success k_extra "oW37");refine Stop.at ?_)
 k_with "MsubscriptTail"=>((fail_if_success k_extra "oW37");refine Stop.at ?_)
 k_with "Mcall builtin:list.append"=>((fail_if_success k_extra "oW37");refine Stop.at ?_)
 k_with "Mexecs cons Assign cons"=>((fail_if_success k_extra "oW37");refine Stop.at ?_)
 trivial
theorem H9 {d V Ch:Addr}{vs zs bs:List Value}{VN:List Int}{n cc cb:Nat}{b:Int}{tb tsx:Tok}{sx:Str}{cV cB cS cC cT cM cD:Obj}
  (hlook:(Mine.hd.heap_39 w.params).lookup 401=some ⟨oc,od,.func (fnOf name qual params body scope dV kV doc pm an cdv ct),osl⟩)
  (hd:dp≤310) (hu:un≤2000) (X':(Mine.hd.heap_39 w.params).In g) (T':Top Mine.hd.view_39 loose mz mg mb g)
  (F:Fr g L' s.heap m) (N:News g L' s.heap [(Ch,listOf bs.toArray cb),(V,listOf zs.toArray cc),(L'+1+1+1+1+1+1+1,cD),(L'+1+1+1+1+1+1,cM),(L'+1+1+1+1+1,cT),(L'+1+1+1+1,cC),(L'+1+1+1,cS),(L'+1+1,cB),(L'+1,cV),(d,listOf vs.toArray n)])
  (hcV:cV.data= .cell (some (.ref V))) (hcB:cB.data= .cell (some (.int b tb))) (hcS:cS.data= .cell (some (.str sx tsx))) (hcC:cC.data= .cell (some (.ref Ch))) (hcT:cT.data= .cell none) (hcM:cM.data= .cell none) (hcD:cD.data= .cell none)
  (lV:@LT.lt Nat _ (L'+1+1+1+1+1+1+1) V) (lC:@LT.lt Nat _ V Ch) (ld:@LT.lt Nat _ d L')
  (hbs:bs=(List.range 9).map (fun j=>Value.bool (AA b j))) (hzs:IntsAre zs VN) (hzl:VN.length=9)
  (next:∀mm h' tk' Mi Th Ga us us2 us3 ce cf cg oT,Fr g L' h' mm→News g L' h' [(Ga,listOf us3.toArray cg),(Th,listOf us2.toArray cf),(Mi,listOf us.toArray ce),(Ch,listOf bs.toArray cb),(V,listOf zs.toArray cc),(L'+1+1+1+1+1+1+1,cD),(L'+1+1+1+1+1+1,cM),(L'+1+1+1+1+1,oT),(L'+1+1+1+1,cC),(L'+1+1+1,cS),(L'+1+1,cB),(L'+1,cV),(d,listOf vs.toArray n)]→Has mm [(Str.ofString "gaps",.ref Ga),(Str.ofString "mine",.ref Mi)]→oT.data= .cell (some (.ref Th))→
   IntsAre us (AE VN (AA b) 9)→IntsAre us2 (AE VN (fun j=>!AA b j) 9)→IntsAre us3 (AG (AE VN (AA b) 9) (AE VN (fun j=>!AA b j) 9))→@LT.lt Nat _ Ch Mi→@LT.lt Nat _ Mi Th→@LT.lt Nat _ Th Ga→s.toks≤tk'→
   wpAny (model PR w) ((AR dp un (some ou) gd).deeper (envOfC qual scope L' 401 cdv)) (execs (body.drop 9) (envOfC qual scope L' 401 cdv)) Q E {s with heap:=h',toks:=tk'}):
  wpAny (model PR w) ((AR dp un (some ou) gd).deeper (envOfC qual scope L' 401 cdv)) (execs (body.drop 6) (envOfC qual scope L' 401 cdv)) Q E s:=by
 revert w dp un ou gd s loose mz mg mb Q E g L' m name qual params body scope dV kV doc pm cdv ct oc an od osl d V Ch vs zs bs VN n cc cb b tb tsx sx cV cB cS cC cT cM cD
 as_aux_lemma=>
 intro pick_ w dp un ou gd s loose mz mg mb Q E g L' m name qual params body scope dV kV doc pm cdv ct oc an od osl d V Ch vs zs bs VN n cc cb b tb tsx sx cV cB cS cC cT cM cD
 intro hlook hd hu X' T' F N hcV hcB hcS hcC hcT hcM hcD lV lC ld hbs hzs hzl next
 k_extra "04p"
 (case k=>k_is)
 intro q
 cases q
 clear hlook
 change wpAny _ _ (execs (_::_) _) _ _ _
 k_extra "0O"
 refine FQ F rfl rfl rfl (BI.plain (by decide) rfl) rfl (by decide) rfl rfl ?_
 k_steps
 k_extra "0S"
 k_extra "0C"
 k_extra "05b"
 k_extra "03"
 refine Bf F8 N8 R8 (Int.le_refl 0) (by decide) (by decide) fun I h9 F9 N9 l9=>?_
 k_extra "05o"
 k_extra "0T"
 intro g2 D C h₁ k1 k2 F10 N10 lD lC2 lX
 intro clo_ g2 D C h₁ p_ k1 k2 F10 N10 lD lC2 lX
 k_extra "05d"
 refine⟨fun k tk mm nw=>Ex3 fun(i:Nat) (us:List Value) (ce:Nat)=>Ea (k+i=9) (nw=(I,AJ i (9-i) 1)::(D,listOf us.toArray ce):: [(Ch,listOf bs.toArray cb),(V,listOf zs.toArray cc),(L'+1+1+1+1+1+1+1,cD),(L'+1+1+1+1+1+1,cM),(L'+1+1+1+1+1,cT),(L'+1+1+1+1,cC),(L'+1+1+1,cS),(L'+1+1,cB),(L'+1,cV),(d,listOf vs.toArray n)]) (IntsAre us (AE VN (AA b) i)),9,_,_,F10,AM N10,⟨0,[],0,rfl,rfl,.nil⟩,?_⟩
 have neI:∀q∈ [(Ch,listOf bs.toArray cb),(V,listOf zs.toArray cc),(L'+1+1+1+1+1+1+1,cD),(L'+1+1+1+1+1+1,cM),(L'+1+1+1+1+1,cT),(L'+1+1+1+1,cC),(L'+1+1+1,cS),(L'+1+1,cB),(L'+1,cV),(d,listOf vs.toArray n)],q.1≠I:=fun q hq=>Nat.ne_of_lt (l9 q hq)
 have neD:∀q∈ [(Ch,listOf bs.toArray cb),(V,listOf zs.toArray cc),(L'+1+1+1+1+1+1+1,cD),(L'+1+1+1+1+1+1,cM),(L'+1+1+1+1+1,cT),(L'+1+1+1+1,cC),(L'+1+1+1,cS),(L'+1+1,cB),(L'+1,cV),(d,listOf vs.toArray n)],q.1≠D:=fun q hq=>Nat.ne_of_lt (lD q (.tail _ hq))
 k_extra "03b"
 have lDC:@LT.lt Nat _ Ch D:=lD (Ch,listOf bs.toArray cb) mm1
 clear F8 N8 R8 F9 N9 F10 N10 l9 lD k2 lX lC2
 rintro k tk1 m₁ nw₁ h₂ F₂ N₂ ⟨i,us,ce,hk,rfl,hus⟩
 have hul:=AC hus
 have hple:=BV VN (AA b) i
 intro clo_ k tk1 m₁ h₂ p_ F₂ d_ i us ce p_ hk hus N₂ hul hple
 k_extra "0F"
 ·k_extra "05w"
  k_extra "0r"
  have hi9:i<9:=by exact Ar.q16 hk hlt
  k_extra "01U"
  clear F₂ N₂
  k_extra "01m"
  k_extra "02A"
  k_extra "02k"
  k_extra "01t"
  clear F3 N3
  k_extra "05u"
  cases hc:AA b i with
  |true=>
   k_extra "02x"
   k_steps
   k_extra "03"
   refine Bm (v:=.bool true) N4 mm2 (by exact Ar.z0) (by exact Ar.zupL ‹_› (by decide)) (by rw [hbs,BN hi9,hc]) ?_
   k_steps
   k_extra "03"
   k_extra "0e"
   k_extra "0a"
   refine AP F5 N5 (.tail nID (.head neD)) (by exact Ar.q113 hk hul hple hlt) fun h7 F7 N7=>?_
   exact Az.intro F7 N7 (n':=k-1) (by exact Ar.cdP ‹_› ‹_›) ⟨i+1,_,ce+1,by exact Ar.cd ‹_› ‹_›,rfl,Bb hus (Dp hc)⟩
  |false=>
   k_extra "02x"
   k_steps
   k_extra "03"
   refine Bm (v:=.bool false) N4 mm2 (by exact Ar.z0) (by exact Ar.zupL ‹_› (by decide)) (by rw [hbs,BN hi9,hc]) ?_
   k_steps
   k_extra "0e"
   k_extra "0a"
   exact Az.intro F5 N5 (n':=k-1) (by exact Ar.cdP ‹_› ‹_›) ⟨i+1,us,ce,by exact Ar.cd ‹_› ‹_›,rfl,by rw [Ej hc];exact hus⟩
 ·intro hge h3 F3 N3
  k_extra "0r"
  k_extra "01m"
  obtain rfl:i=9:=by exact Ar.q33 hk hge
  k_extra "0N"
  k_extra "050"
  k_extra "03L"
  intro hl1
  try dsimp only at hl1
  try dsimp only
  k_steps
  k_extra "0e"
  k_extra "0a"
  k_extra "03"
  k_extra "0O"
  k_steps
  k_extra "0G"
  k_extra "0x"
  k_extra "03"
  k_extra "03e"
  k_steps
  k_extra "0S"
  k_extra "0C"
  k_extra "05b"
  k_extra "03"
  refine Bf F8 N8 R8 (Int.le_refl 0) (by decide) (by decide) fun I2 h9 F9 N9 l9=>?_
  k_extra "04I"
  k_extra "0T"
  intro g3 D2 C2 h₁ k1 k2 F10 N10 lD lC2 lX
  intro clo_ g3 D2 C2 h₁ p_ k1 k2 F10 N10 lD lC2 lX
  refine Ai (g':=g3) (C:=C2) ?_
  refine⟨fun k tk mm nw=>Ex3 fun(i:Nat) (us2:List Value) (cf:Nat)=>Ea (k+i=9) (nw=(I2,AJ i (9-i) 1)::(D2,listOf us2.toArray cf)::(D,listOf us.toArray ce):: [(Ch,listOf bs.toArray cb),(V,listOf zs.toArray cc),(L'+1+1+1+1+1+1+1,cD),(L'+1+1+1+1+1+1,cM),(L'+1+1+1+1+1,cT),(L'+1+1+1+1,cC),(L'+1+1+1,cS),(L'+1+1,cB),(L'+1,cV),(d,listOf vs.toArray n)]) (IntsAre us2 (AE VN (fun j=>!AA b j) i)),9,_,_,F10,AM N10,⟨0,[],0,rfl,rfl,.nil⟩,?_⟩
  have neI:∀q∈(D,listOf us.toArray ce):: [(Ch,listOf bs.toArray cb),(V,listOf zs.toArray cc),(L'+1+1+1+1+1+1+1,cD),(L'+1+1+1+1+1+1,cM),(L'+1+1+1+1+1,cT),(L'+1+1+1+1,cC),(L'+1+1+1,cS),(L'+1+1,cB),(L'+1,cV),(d,listOf vs.toArray n)],q.1≠I2:=fun q hq=>Nat.ne_of_lt (l9 q hq)
  have neD:∀q∈(D,listOf us.toArray ce):: [(Ch,listOf bs.toArray cb),(V,listOf zs.toArray cc),(L'+1+1+1+1+1+1+1,cD),(L'+1+1+1+1+1+1,cM),(L'+1+1+1+1+1,cT),(L'+1+1+1+1,cC),(L'+1+1+1,cS),(L'+1+1,cB),(L'+1,cV),(d,listOf vs.toArray n)],q.1≠D2:=fun q hq=>Nat.ne_of_lt (lD q (.tail _ hq))
  k_extra "02Z"
  have lDD:@LT.lt Nat _ D D2:=lD (D,listOf us.toArray ce) mm1
  clear F8 N8 R8 F9 N9 F10 N10 l9 lD k2 lX lC2
  rintro k tk1 m₁ nw₁ h₂ F₂ N₂ ⟨i,us2,cf,hk,rfl,hus2⟩
  have hul2:=AC hus2
  have hple2:=BV VN (fun j=>!AA b j) i
  intro clo_ k tk1 m₁ h₂ p_ F₂ d_ i us2 cf p_ hk hus2 N₂ hul2 hple2
  k_extra "0F"
  ·k_extra "05w"
   k_extra "0r"
   have hi9:i<9:=by exact Ar.q16 hk hlt
   k_extra "01U"
   clear F₂ N₂
   k_extra "01m"
   k_extra "02A"
   k_extra "02k"
   k_extra "01t"
   clear F3 N3
   k_extra "05u"
   cases hc:AA b i with
   |false=>
    k_extra "02x"
    k_steps
    k_extra "03"
    refine Bm (v:=.bool false) N4 mm3 (by exact Ar.z0) (by exact Ar.zupL ‹_› (by decide)) (by rw [hbs,BN hi9,hc]) ?_
    k_steps
    k_extra "03"
    k_extra "0e"
    k_extra "0a"
    refine AP F5 N5 (.tail nID (.head neD)) (by exact Ar.q113 hk hul2 hple2 hlt) fun h7 F7 N7=>?_
    exact Az.intro F7 N7 (n':=k-1) (by exact Ar.cdP ‹_› ‹_›) ⟨i+1,_,cf+1,by exact Ar.cd ‹_› ‹_›,rfl,Bb hus2 (Dp (by rw [hc];rfl))⟩
   |true=>
    k_extra "02x"
    k_steps
    k_extra "03"
    refine Bm (v:=.bool true) N4 mm3 (by exact Ar.z0) (by exact Ar.zupL ‹_› (by decide)) (by rw [hbs,BN hi9,hc]) ?_
    k_steps
    k_extra "0e"
    k_extra "0a"
    exact Az.intro F5 N5 (n':=k-1) (by exact Ar.cdP ‹_› ‹_›) ⟨i+1,us2,cf,by exact Ar.cd ‹_› ‹_›,rfl,by rw [Ej (by rw [hc];rfl)];exact hus2⟩
  ·intro hge h3 F3 N3
   k_extra "0r"
   k_extra "01m"
   obtain rfl:i=9:=by exact Ar.q33 hk hge
   k_extra "0N"
   k_extra "050"
   k_extra "03L"
   k_steps
   k_extra "0e"
   k_extra "0a"
   k_extra "03"
   obtain⟨oT,hoT,N6⟩:∃oT,oT.data= .cell (some (.ref D2))∧News g L' _ ((D2,listOf us2.toArray cf)::(D,listOf us.toArray ce):: [(Ch,listOf bs.toArray cb),(V,listOf zs.toArray cc),(L'+1+1+1+1+1+1+1,cD),(L'+1+1+1+1+1+1,cM),(L'+1+1+1+1+1,oT),(L'+1+1+1+1,cC),(L'+1+1+1,cS),(L'+1+1,cB),(L'+1,cV),(d,listOf vs.toArray n)]):=⟨_,by assumption,N5⟩
   clear N5
   intro clo_ oT p_ hoT N6
   k_extra "03"
   generalize hmN:AE VN (AA b) 9=mN at*
   generalize htN:AE VN (fun j=>!AA b j) 9=tN at*
   rename _≤Shared.toks _=>hl2
   try dsimp only at hl2
   intro clo_ mN p_ hmN hus hul hple d_ tN p_ htN hus2 hul2 hple2 next
   k_extra "0O"
   k_extra "02n"
   k_steps
   k_extra "0S"
   k_extra "0C"
   k_extra "03"
   refine Ad F8 N8 ⟨_,(N8 _ mm1).1,rfl,ce,rfl⟩ fun I3 h9 F9 N9 l9=>?_
   intro clo_ I3 h9 p_ F9 N9 l9
   k_extra "016"
   intro g4 D3 C3 h₁ k1 k2 F10 N10 lD lC2 lX
   intro clo_ g4 D3 C3 h₁ p_ k1 k2 F10 N10 lD lC2 lX
   refine Ja (g':=g4) (C:=C3) ?_
   refine⟨fun k tk mm nw=>Ex4 fun(i:Nat) (us3:List Value) (oI:Obj) (cg:Nat)=>C6 (k+i=mN.length) (nw=(I3,oI)::(D3,listOf us3.toArray cg)::(D2,listOf us2.toArray cf)::(D,listOf us.toArray ce):: [(Ch,listOf bs.toArray cb),(V,listOf zs.toArray cc),(L'+1+1+1+1+1+1+1,cD),(L'+1+1+1+1+1+1,cM),(L'+1+1+1+1+1,oT),(L'+1+1+1+1,cC),(L'+1+1+1,cS),(L'+1+1,cB),(L'+1,cV),(d,listOf vs.toArray n)]) (oI.cls= .type "list_iterator") (oI.data= .fields #[.ref D,.int (i:Nat) 0]) (IntsAre us3 (AG (mN.take i) tN)),mN.length,_,_,F10,AM N10,⟨0,[],{cls:=.type "list_iterator",data:=.fields #[.ref D,.int 0 0]},0,rfl,rfl,rfl,rfl,.nil⟩,?_⟩
   have neI:∀q∈(D2,listOf us2.toArray cf)::(D,listOf us.toArray ce):: [(Ch,listOf bs.toArray cb),(V,listOf zs.toArray cc),(L'+1+1+1+1+1+1+1,cD),(L'+1+1+1+1+1+1,cM),(L'+1+1+1+1+1,oT),(L'+1+1+1+1,cC),(L'+1+1+1,cS),(L'+1+1,cB),(L'+1,cV),(d,listOf vs.toArray n)],q.1≠I3:=fun q hq=>Nat.ne_of_lt (l9 q hq)
   have neD:∀q∈(D2,listOf us2.toArray cf)::(D,listOf us.toArray ce):: [(Ch,listOf bs.toArray cb),(V,listOf zs.toArray cc),(L'+1+1+1+1+1+1+1,cD),(L'+1+1+1+1+1+1,cM),(L'+1+1+1+1+1,oT),(L'+1+1+1+1,cC),(L'+1+1+1,cS),(L'+1+1,cB),(L'+1,cV),(d,listOf vs.toArray n)],q.1≠D3:=fun q hq=>Nat.ne_of_lt (lD q (.tail _ hq))
   k_extra "030"
   have lD23:@LT.lt Nat _ D2 D3:=lD (D2,listOf us2.toArray cf) mm1
   clear F8 N8 F9 N9 F10 N10 l9 lD k2 lX lC2
   rintro k tk1 m₁ nw₁ h₂ F₂ N₂ ⟨i,us3,oI,cg,hk,rfl,cI,dI,hus3⟩
   have hul3:=AC hus3
   intro clo_ k tk1 m₁ h₂ p_ F₂ d_ i us3 oI cg p_ hk cI dI hus3 N₂ hul3
   refine Ao rfl F₂ N₂ cI dI ⟨_,(N₂ (D,listOf us.toArray ce) mm3).1,rfl,ce,rfl⟩ (List.forall_mem_cons.mpr ⟨nID.symm,neI⟩) ?_ ?_
   ·intro x hx h3 oI' cI' dI' F3 N3
    dsimp only [Cj]
    have hi9:i<mN.length:=by have:=(List.getElem?_eq_some_iff.mp hx).1;exact Ar.rr2 ‹_› ‹_›
    have ex:x= .int (mN.getD i 0) (BE (us.getD i .none)):=by
     have:=Bs hus (k:=i) hi9
     rw [hx] at this
     k_extra "02y"
    subst ex
    clear F₂ N₂ hx
    k_extra "05c"
    k_extra "02A"
    k_extra "02k"
    k_extra "01t"
    clear F3 N3
    k_extra "02x"
    k_steps
    k_extra "03"
    refine Ad F4 N4 ⟨_,(N4 (D2,listOf us2.toArray cf) mm2).1,rfl,cf,rfl⟩ fun I4 h5 F5 N5 l5=>?_
    intro clo_ I4 h5 p_ F5 N5 l5
    refine⟨fun s' hs' Q E hQ=>wpAny_pyIter_listiter (l:=D2) (i:=0) ⟨_,hs' _ _ (N5 _ (.head _)).1,rfl,rfl⟩ hQ,?_⟩
    have neI4:∀q∈(I3,oI')::(D3,listOf us3.toArray cg)::(D2,listOf us2.toArray cf)::(D,listOf us.toArray ce):: [(Ch,listOf bs.toArray cb),(V,listOf zs.toArray cc),(L'+1+1+1+1+1+1+1,cD),(L'+1+1+1+1+1+1,cM),(L'+1+1+1+1+1,oT),(L'+1+1+1+1,cC),(L'+1+1+1,cS),(L'+1+1,cB),(L'+1,cV),(d,listOf vs.toArray n)],@Ne Nat q.1 I4:=fun q hq=>Nat.ne_of_lt (l5 q hq)
    refine⟨fun k tk mm nw=>Ex4 fun(j:Nat) (us4:List Value) (oK:Obj) (ch:Nat)=>DJ (k+j=tN.length) (nw=(I4,oK)::(I3,oI')::(D3,listOf us4.toArray ch)::(D2,listOf us2.toArray cf)::(D,listOf us.toArray ce):: [(Ch,listOf bs.toArray cb),(V,listOf zs.toArray cc),(L'+1+1+1+1+1+1+1,cD),(L'+1+1+1+1+1+1,cM),(L'+1+1+1+1+1,oT),(L'+1+1+1+1,cC),(L'+1+1+1,cS),(L'+1+1,cB),(L'+1,cV),(d,listOf vs.toArray n)]) (oK.cls= .type "list_iterator") (oK.data= .fields #[.ref D2,.int (j:Nat) 0]) (IntsAre us4 (AG (mN.take i) tN++(tN.take j).map fun y=>mN.getD i 0-y)) (Has mm [(Str.ofString "one",.int (mN.getD i 0) (BE (us.getD i .none)))]),tN.length,_,_,F5,N5,⟨0,us3,{cls:=.type "list_iterator",data:=.fields #[.ref D2,.int 0 0]},cg,rfl,rfl,rfl,rfl,by rw [List.take_zero,List.map_nil,List.append_nil];exact hus3,⟨rfl,trivial⟩⟩,?_⟩
    clear F4 N4 F5 N5 l5
    rintro k4 tk5 m₄ nw₄ h₅ F₅ N₅ ⟨j,us4,oK,ch,hk4,rfl,cK,dK,hus4,hm4⟩
    have F₆:=hm4.fr F₅
    clear F₅
    have hul4:=AC hus4
    have hsm:(AG (mN.take i) tN).length≤81:=D0 (by rw [List.length_take];exact Ar.mnR ‹_›) hple2
    have hsm2:((tN.take j).map fun y=>mN.getD i 0-y).length≤9:=by rw [List.length_map,List.length_take];exact Ar.mnR ‹_›
    rw [List.length_append] at hul4
    intro clo_ k4 tk5 m₄ h₅ j us4 oK ch p_ hk4 cK dK hus4 hm4 N₅ F₆ hul4 hsm2
    refine Ao rfl F₆ N₅ cK dK ⟨_,(N₅ (D2,listOf us2.toArray cf) mm3).1,rfl,cf,rfl⟩ (List.forall_mem_cons.mpr ⟨neI4 (I3,oI') (.head _),List.forall_mem_cons.mpr ⟨neI4 (D3,listOf us3.toArray cg) mm1,fun q hq=>neI4 q (.tail _ (.tail _ hq))⟩⟩) ?_ ?_
    ·intro x hx h6 oK' cK' dK' F7 N7
     k_extra "0r"
     have hj9:j<tN.length:=by have:=(List.getElem?_eq_some_iff.mp hx).1;exact Ar.rr2 ‹_› ‹_›
     have ex:x= .int (tN.getD j 0) (BE (us2.getD j .none)):=by
      have:=Bs hus2 (k:=j) hj9
      rw [hx] at this
      k_extra "02y"
     subst ex
     clear F₆ N₅ hx
     intro clo_ h6 oK' p_ cK' dK' F7 N7
     k_steps
     k_extra "0S"
     k_extra "0C"
     k_extra "03"
     refine AP F8 N8 (.tail (neI4 (D3,listOf us3.toArray cg) mm1).symm (.tail nID (.head neD))) (by exact hul4▸Nat.le_trans (Nat.add_le_add hsm hsm2) (by decide)) fun h9 F9 N9=>?_
     exact Az.intro F9 N9 (n':=k4-1) (by exact Ar.cdP ‹_› ‹_›) ⟨j+1,_,oK',ch+1,by exact Ar.cd ‹_› ‹_›,rfl,cK',dK',Bb hus4 (KI hj9),⟨rfl,trivial⟩⟩
    ·intro hx h6 F7 N7
     k_extra "0r"
     intro clo_ h6 p_ F7 N7
     obtain rfl:j=tN.length:=by have:=List.getElem?_eq_none_iff.mp hx;exact Ar.ceR ‹_› ‹_› ‹_›
     rw [List.take_length,←IJ hi9] at hus4
     exact Az.intro F7 N7 (n':=k-1) (by exact Ar.cdP ‹_› ‹_›) ⟨i+1,us4,oI',ch,by exact Ar.cd ‹_› ‹_›,rfl,cI',dI',hus4⟩
   ·intro hx h3 F3 N3
    dsimp only [Cj]
    k_extra "01m"
    obtain rfl:i=mN.length:=by have:=List.getElem?_eq_none_iff.mp hx;exact Ar.ceR ‹_› ‹_› ‹_›
    k_extra "0N"
    rw [List.take_length] at hus3
    k_extra "050"
    k_extra "03L"
    intro hl3
    try dsimp only at hl3
    try dsimp only
    k_steps
    k_extra "03"
    k_extra "0e"
    k_extra "0a"
    exact next _ _ _ D D2 D3 us us2 us3 ce cf cg oT F5 N5 ⟨rfl,rfl,trivial⟩ hoT hus hus2 hus3 lDC lDD lD23 (Nat.le_trans hl1 (Nat.le_trans hl2 hl3))
theorem kw_W37_e:True:=by
 k_with "oW37"=>skip
 trivial
theorem kw_W38_1:True:=by
 k_with "ar"=>((fail_if_success k_extra "oW38");with_reducible first|assumption|exact Ne.symm ‹_›|exact Int.ofNat_lt.mpr ‹_›|exact Nat.zero_le _|exact Int.natCast_nonneg _|exact Ar.q162 ‹_› ‹_›)
 trivial
theorem kw_W38_2:True:=by
 k_with "Mexecs cons If cons"=>((fail_if_success k_extra "oW38");refine Stop.at ?_)
 k_with "Mexecs cons If"=>((fail_if_success k_extra "oW38");refine Stop.at ?_)
 trivial
theorem Eb {x a b:Addr×Obj}{r:List (Addr×Obj)}(h:x∈a::r):x∈a::b::r:=
 Bj [0] 2 rfl h
theorem H8 {Mi Th Ga:Addr}{us us2 us3:List Value}{mN tN:List Int}{ce cf cg:Nat}{rest:List (Addr×Obj)}{oT:Obj}
  (hlook:(Mine.hd.heap_39 w.params).lookup 401=some ⟨oc,od,.func (fnOf name qual params body scope dV kV doc pm an cdv ct),osl⟩)
  (hd:dp≤310) (hu:un≤2000) (X:(Mine.hd.heap_39 w.params).In base) (T:Top Mine.hd.view_39 loose mz mg mb base) (B:Below (AR dp un (some ou) gd) base ou g) (D:KtsDicts (AF ou) g)
  (F:Fr g L' s.heap m) (N:News g L' s.heap ((Ga,listOf us3.toArray cg)::(Th,listOf us2.toArray cf)::(Mi,listOf us.toArray ce)::(L'+1+1+1+1+1,oT)::rest)) (hm:Has m [(Str.ofString "gaps",.ref Ga),(Str.ofString "mine",.ref Mi)]) (hoT:oT.data= .cell (some (.ref Th)))
  (hus:IntsAre us mN) (hus2:IntsAre us2 tN) (hus3:IntsAre us3 (AG mN tN)) (h9:mN.length+tN.length=9) (hb1:∀x∈mN,x.natAbs<2^40) (hb2:∀x∈tN,x.natAbs<2^40) (lMT:@LT.lt Nat _ Mi Th) (lTG:@LT.lt Nat _ Th Ga)
  (next:∀g' mm h' tk' Mo mo MV co,KtsTurn (AF ou) g g'→Below (AR dp un (some ou) gd) base ou g'→KtsDicts (AF ou) g'→Fr g' L' h' mm→
   News g' L' h' ((Mo,listOf mo.toArray co)::(Ga,listOf us3.toArray cg)::(Th,listOf us2.toArray cf)::(Mi,listOf us.toArray ce)::(L'+1+1+1+1+1,oT)::rest)→Has mm [(Str.ofString "moves",.ref Mo),(Str.ofString "gaps",.ref Ga),(Str.ofString "mine",.ref Mi)]→IntsAre mo (0::MV)→MV.length≤2→(MV≠ []→AG mN tN≠ [])→s.toks≤tk'→
   wpAny (model PR w) ((AR dp un (some ou) gd).deeper (envOfC qual scope L' 401 cdv)) (execs (body.drop 10) (envOfC qual scope L' 401 cdv)) Q E {s with heap:=h',toks:=tk'}):
  wpAny (model PR w) ((AR dp un (some ou) gd).deeper (envOfC qual scope L' 401 cdv)) (execs (body.drop 9) (envOfC qual scope L' 401 cdv)) Q E s:=by
 revert w dp un ou gd s loose mz mg mb Q E base g L' m name qual params body scope dV kV doc pm cdv ct oc an od osl Mi Th Ga us us2 us3 mN tN ce cf cg rest oT
 as_aux_lemma=>
 intro pick_ w dp un ou gd s loose mz mg mb Q E base g L' m name qual params body scope dV kV doc pm cdv ct oc an od osl Mi Th Ga us us2 us3 mN tN ce cf cg rest oT
 intro hlook hd hu X T B D F N hm hoT hus hus2 hus3 h9 hb1 hb2 lMT lTG next
 k_extra "04p"
 (case k=>k_is)
 intro q
 cases q
 clear hlook
 k_extra "02K"
 k_extra "02o"
 have F1:=hm.fr F
 clear F hm
 change wpAny _ _ (execs (_::_) _) _ _ _
 k_extra "0O"
 k_steps
 ·k_extra "0e"
  k_extra "0a"
  rename decide _=true=>hG
  k_extra "03"
  have hG0:AG mN tN= []:=of_decide_eq_true hG
  have h30:us3= []:=by
   have:=AC hus3
   rw [hG0] at this
   exact List.eq_nil_of_length_eq_zero this
  have hGa:=N5 (Ga,listOf us3.toArray cg) mm1
  have G0:Gnd (AR dp un (some ou) gd) base ou g L' _ _ _ g:=⟨KtsTurn.refl,F5,N5,B,D⟩
  refine E0 (n:=cg) (As B D F5) X T (show dp+1≤400 by exact Ar.up ‹_› (by rfl)) (show un+3≤7000 by exact Ar.up ‹_› (by rfl)) (by rw [h30] at hGa;exact hGa.1) (fresh_of_stays B.stays hGa.2.2) fun h6 tk6 R t c e6 f6 U6=>?_
  intro clo_ h6 tk6 R t c p_ e6 f6 U6
  obtain⟨g1,G1⟩:=G0.add U6 f6 e6
  clear F5 N5 B D X' T' G0 U6 f6 e6 hGa
  intro clo_ g1 p_ G1
  obtain⟨t1,F6,N6,B1,D1⟩:=G1
  k_extra "02z"
  k_extra "02b"
  have N7:News g1 L' h6 ((R,listOf [.int 0 t].toArray c)::(Ga,listOf us3.toArray cg)::(Th,listOf us2.toArray cf)::(Mi,listOf us.toArray ce)::(L'+1+1+1+1+1,oT)::rest):=fun p hp=>N6 p (Eb hp)
  clear N6
  k_steps
  k_extra "03"
  k_extra "0S"
  k_extra "0C"
  k_extra "04q"
  exact next g1 _ _ _ R [.int 0 t] [] c t1 B1 D1 F8 N8 ⟨rfl,rfl,rfl,trivial⟩ (.cons 0 t .nil) (by decide) (fun h=>absurd rfl h) hl1
 ·k_extra "0e"
  k_extra "0a"
  rename decide _=false=>hG
  k_extra "03"
  have hG0:AG mN tN≠ []:=of_decide_eq_false hG
  obtain⟨hm1,ht1,H,hH,hH1,hH2⟩:=En h9 hG0
  intro clo_ H p_ hH hH1 hH2
  refine E9 (Fr.keep F5) X' T' (show dp+1≤500 by exact Ar.up ‹_› (by rfl)) (show un+3≤5000 by exact Ar.up ‹_› (by rfl)) (N5 (Mi,listOf us.toArray ce) mm3).1 (N5 (Mi,listOf us.toArray ce) mm3).2.2 (N5 (Th,listOf us2.toArray cf) mm2).1 (N5 (Th,listOf us2.toArray cf) mm2).2.2 (N5 (Ga,listOf us3.toArray cg) mm1).1 (N5 (Ga,listOf us3.toArray cg) mm1).2.2
   (Nat.ne_of_lt lMT) (Nat.ne_of_gt (Nat.lt_trans lMT lTG)) (Nat.ne_of_gt lTG) hus hus2 hus3 hm1 (by exact Ar.r270 h9 ht1) ht1 (by exact Ar.r280 h9 hm1) H hH hH1 hH2 (KJ hb1 hb2) fun h6 tk6 R mo c e6 i6 f6 k6=>?_
  have F6:=F5.kept k6
  have N6:=Al F5 (N5.grown k6) f6 e6
  clear F5 N5 k6 f6 e6
  have N7:News g L' h6 ((R,listOf mo.toArray c)::(Ga,listOf us3.toArray cg)::(Th,listOf us2.toArray cf)::(Mi,listOf us.toArray ce)::(L'+1+1+1+1+1,oT)::rest):=fun p hp=>N6 p (Eb hp)
  clear N6
  intro clo_ h6 tk6 R mo c p_ i6 F6 N7
  k_steps
  k_extra "03"
  k_extra "0S"
  k_extra "0C"
  k_extra "04q"
  exact next g _ _ _ R mo _ c KtsTurn.refl B D F8 N8 ⟨rfl,rfl,rfl,trivial⟩ i6 (Nat.le_refl 2) (fun _=>hG0) hl1
theorem kw_W38_e:True:=by
 k_with "oW38"=>skip
 trivial
theorem kw_W39_1:True:=by
 k_with "ar"=>((fail_if_success k_extra "oW39");with_reducible first|assumption|exact Ne.symm ‹_›|exact Int.ofNat_lt.mpr ‹_›|exact Nat.zero_le _|exact Int.natCast_nonneg _|exact Ar.q162 ‹_› ‹_›)
 trivial
theorem kw_W39_2:True:=by
 k_with "Mexecs cons For cons"=>((fail_if_success k_extra "oW39");refine Stop.at ?_)
 k_with "Mexecs cons For"=>((fail_if_success k_extra "oW39");refine Stop.at ?_)
 trivial
theorem H7 {V Mo Ga Mi:Addr}{zs mo:List Value}{VN MV:List Int}{cc co:Nat}{b:Int}{tb:Tok}{rest:List (Addr×Obj)}{cV cB:Obj}
  (hlook:(Mine.hd.heap_39 w.params).lookup 401=some ⟨oc,od,.func (fnOf name qual params body scope dV kV doc pm an cdv ct),osl⟩)
  (hd:dp≤310) (hu:un≤2000) (X:(Mine.hd.heap_39 w.params).In base) (T:Top Mine.hd.view_39 loose mz mg mb base) (B:Below (AR dp un (some ou) gd) base ou g) (D:KtsDicts (AF ou) g)
  (F:Fr g L' s.heap m) (N:News g L' s.heap ((Mo,listOf mo.toArray co)::(V,listOf zs.toArray cc)::(L'+1+1,cB)::(L'+1,cV)::rest)) (hm:Has m [(Str.ofString "moves",.ref Mo),(Str.ofString "gaps",.ref Ga),(Str.ofString "mine",.ref Mi)]) (hcV:cV.data= .cell (some (.ref V))) (hcB:cB.data= .cell (some (.int b tb)))
  (hmo:IntsAre mo (0::MV)) (hzs:IntsAre zs VN) (hzl:VN.length=9) (hbd:∀x∈VN,x.natAbs<2^40) (hb:0≤b∧b<65536) (tok0:∀m t,Value.int m t∈zs→t≠0) (tok1:∀m k t,Value.int m t∈zs→Value.int k t∈zs→m=k)
  (next:∀g' mm h' tk',KtsTurn (AF ou) g g'→Below (AR dp un (some ou) gd) base ou g'→KtsDicts (AF ou) g'→Fr g' L' h' mm→Has mm [(Str.ofString "moves",.ref Mo),(Str.ofString "gaps",.ref Ga),(Str.ofString "mine",.ref Mi)]→
   News g' L' h' ((Mo,listOf mo.toArray co)::(V,listOf zs.toArray cc)::(L'+1+1,cB)::(L'+1,cV)::rest)→s.toks≤tk'→
   wpAny (model PR w) ((AR dp un (some ou) gd).deeper (envOfC qual scope L' 401 cdv)) (execs (body.drop 11) (envOfC qual scope L' 401 cdv)) Q E {s with heap:=h',toks:=tk'}):
  wpAny (model PR w) ((AR dp un (some ou) gd).deeper (envOfC qual scope L' 401 cdv)) (execs (body.drop 10) (envOfC qual scope L' 401 cdv)) Q E s:=by
 revert w dp un ou gd s loose mz mg mb Q E base g L' m name qual params body scope dV kV doc pm cdv ct oc an od osl V Mo Ga Mi zs mo VN MV cc co b tb rest cV cB
 as_aux_lemma=>
 intro pick_ w dp un ou gd s loose mz mg mb Q E base g L' m name qual params body scope dV kV doc pm cdv ct oc an od osl V Mo Ga Mi zs mo VN MV cc co b tb rest cV cB
 intro hlook hd hu X T B D F N hm hcV hcB hmo hzs hzl hbd hb tok0 tok1 next
 k_extra "04p"
 (case k=>k_is)
 intro q
 cases q
 clear hlook
 k_extra "02K"
 k_extra "02o"
 have F1:=hm.fr F
 change wpAny _ _ (execs (_::_) _) _ _ _
 k_extra "0O"
 clear F hm
 k_steps
 ·rename decide _=true=>hx
  exact absurd (of_decide_eq_true hx) (List.cons_ne_nil _ _)
 k_extra "0e"
 k_extra "0a"
 k_extra "03"
 refine G7 (Fr.keep F5) X' T' (show dp+1≤500 by exact Ar.up ‹_› (by rfl)) (show un+3≤5000 by exact Ar.up ‹_› (by rfl)) (N5 (V,listOf zs.toArray cc) mm2).1 (N5 (V,listOf zs.toArray cc) mm2).2.2 hzs hzl fun h6 tk6 k6=>?_
 have F6:=F5.kept k6
 have N6:News g L' h6 ((Mo,listOf mo.toArray co)::(V,listOf zs.toArray cc)::(L'+1+1,cB)::(L'+1,cV)::rest):=fun p hp=>N5.grown k6 p (.tail _ hp)
 clear F5 N5 k6
 intro clo_ h6 tk6 p_ F6 N6
 k_steps
 k_extra "022"
 k_extra "01b"
 k_extra "03"
 have G0:Gnd (AR dp un (some ou) gd) base ou g L' _ _ _ g:=⟨KtsTurn.refl,F7,N7,B,D⟩
 have hVN:=N7 (V,listOf zs.toArray cc) mm1
 refine Fc (As B D F7) X T (show dp+1≤320 by exact Ar.up ‹_› (by rfl)) (show un+3≤6000 by exact Ar.up ‹_› (by rfl)) (by exact Ar.q192 hb) hVN.1 (fresh_of_stays B.stays hVN.2.2) hzs hzl hbd tok0 tok1 fun h8 tk8 U8=>?_
 intro clo_ h8 tk8 p_ U8
 obtain⟨g1,G1⟩:=G0.same U8
 clear F7 N7 B D X' T' G0 U8 hVN
 intro clo_ g1 p_ G1
 obtain⟨t1,F8,N8,B1,D1⟩:=G1
 k_extra "02z"
 k_extra "02b"
 k_steps
 k_extra "03"
 rename _≤Shared.toks _=>hl
 dsimp only
 exact next g1 _ _ _ t1 B1 D1 F8 ⟨rfl,rfl,rfl,trivial⟩ N8 hl
end
theorem kw_W39_e:True:=by
 k_with "oW39"=>skip
 trivial
end
theorem DY {α:Type}(f g:α→Int):∀l:List α,(l.map fun x=>f x+g x).sum=(l.map f).sum+(l.map g).sum
 | []=>rfl
 |a::r=>by
  have:=DY f g r
  simp only [List.map_cons,List.sum_cons]
  omega
theorem HI {α:Type}:∀l:List α,(l.map fun _=>(1:Int)).sum=l.length
 | []=>rfl
 |a::r=>by
  have:=HI r
  k_extra "04h"
  exact Ar.r206 this
theorem IU (a c:Int):BL a c+BL c a=2:=by
 unfold BL
 split
 ·rw [if_neg (by exact Ar.r312 ‹_›),if_neg (by exact Ar.r115 ‹_›)];rfl
 ·split
  ·rw [if_neg (by omega),if_pos (by omega)];rfl
  ·rw [if_pos (by exact Ar.q491 ‹_› ‹_›)];rfl
theorem IT (a:Int):BL a a=1:=by
 unfold BL
 rw [if_neg (by omega),if_pos rfl]
noncomputable def Bg (L M:List Int):Int:=(L.map fun x=>(M.map (BL x)).sum).sum
theorem IN (L:List Int)(a:Int)(M:List Int):Bg L (a::M)=(L.map fun x=>BL x a).sum+Bg L M:=by
 unfold Bg
 rw [←DY]
 rfl
theorem GQ (a:Int):∀L:List Int,(L.map (BL a)).sum+(L.map fun x=>BL x a).sum=2*L.length
 | []=>rfl
 |c::r=>by
  have h1:=GQ a r
  have h2:=IU a c
  k_extra "04h"
  omega
theorem Jr (n:Int):(n+1)*(n+1)=n*n+2*n+1:=by
 rw [Int.add_mul,Int.mul_add,Int.one_mul,Int.mul_one]
 generalize n*n=S
 omega
theorem Ci:∀L:List Int,Bg L L=(L.length:Int)*L.length
 | []=>rfl
 |a::r=>by
  have h1:=Ci r
  have h2:=GQ a r
  have h3:=IT a
  have e:Bg (a::r) (a::r)=((a::r).map (BL a)).sum+Bg r (a::r):=rfl
  have e2:((r.length+1:Nat):Int)=(r.length:Int)+1:=by omega
  rw [e,IN,List.map_cons,List.sum_cons,h1,h3,List.length_cons,e2,Jr]
  generalize (r.length:Int)*r.length=S at*
  omega
theorem Ff (L:List Int)(x:Int):AH 1 L x=(L.map (BL x)).sum+1:=by
 rw [GJ]
 unfold AH rk2
 omega
theorem Dm (L M:List Int):(M.map (AH 1 L)).sum=Bg M L+M.length:=by
 unfold Bg
 rw [←HI M,←DY]
 exact congrArg List.sum (List.map_congr_left fun x _=>Ff L x)
theorem Fe (L:List Int)(x:Int):0<AH 1 L x:=by
 unfold AH rk2
 exact Ar.r90
noncomputable def HD (mv g:Int):Int:=if mv<g then 2 else if g=mv then 1 else 0
theorem IS (mv x y:Int):HD mv (x-y)=BL x (y+mv):=by
 unfold HD BL
 have e1:(mv<x-y)=(y+mv<x):=propext ⟨fun _=>by exact Ar.r241 ‹_›,fun _=>by exact Ar.r243 ‹_›⟩
 have e2:(x-y=mv)=(y+mv=x):=propext ⟨fun _=>by exact Ar.r238 ‹_›,fun _=>by exact Ar.r242 ‹_›⟩
 simp only [e1,e2]
theorem DT (mv:Int)(tN:List Int):∀mN:List Int,((AG mN tN).map (HD mv)).sum=Bg mN (tN.map fun y=>y+mv)
 | []=>rfl
 |x::r=>by
  have ih:=DT mv tN r
  unfold AG at ih⊢
  rw [List.flatMap_cons,List.map_append,List.sum_append,ih]
  unfold Bg
  rw [List.map_cons,List.sum_cons,List.map_map,List.map_map]
  congr 2
  exact List.map_congr_left fun y _=>IS mv x y
noncomputable def AD (VN:List Int)(ch:Nat→Bool)(mv:Int)(i:Nat):List Int:=(List.range i).map fun j=>if ch j then VN.getD j 0 else VN.getD j 0+mv
theorem DR (VN:List Int)(ch:Nat→Bool)(mv x:Int):∀l:List Nat,
  ((l.map fun j=>if ch j then VN.getD j 0 else VN.getD j 0+mv).map (BL x)).sum=(((l.filter ch).map fun j=>VN.getD j 0).map (BL x)).sum+((((l.filter fun j=>!ch j).map fun j=>VN.getD j 0).map fun y=>y+mv).map (BL x)).sum
 | []=>rfl
 |j::r=>by
  have ih:=DR VN ch mv x r
  cases h:ch j
  ·simp only [List.map_cons,List.sum_cons,List.filter_cons,h,Bool.not_false,if_true,if_false,Bool.false_eq_true] at ih⊢
   exact Ar.r69 ih
  ·simp only [List.map_cons,List.sum_cons,List.filter_cons,h,Bool.not_true,if_true,if_false,Bool.false_eq_true] at ih⊢
   exact Ar.r85 ih
theorem IO (A B1 B2:List Int)(R:List Int)(h:∀x,(R.map (BL x)).sum=(B1.map (BL x)).sum+(B2.map (BL x)).sum):Bg A R=Bg A B1+Bg A B2:=by
 unfold Bg
 rw [←DY]
 exact congrArg List.sum (List.map_congr_left fun x _=>h x)
theorem Ev (VN:List Int)(ch:Nat→Bool)(mv:Int):
  ((AE VN ch 9).map (AH 1 (AD VN ch mv 9))).sum=((AE VN ch 9).length:Int)*(((AE VN ch 9).length:Int)+1)+((AG (AE VN ch 9) (AE VN (fun j=>!ch j) 9)).map (HD mv)).sum:=by
 rw [Dm,DT,IO (AE VN ch 9) (AE VN ch 9) ((AE VN (fun j=>!ch j) 9).map fun y=>y+mv) (AD VN ch mv 9) (fun x=>DR VN ch mv x (List.range 9)),Ci,Int.mul_add,Int.mul_one]
 exact Int.add_right_comm _ _ _
theorem Hn (VN:List Int)(ch:Nat→Bool)(mv:Int):((AD VN ch mv 9).map (AH 1 (AD VN ch mv 9))).sum=90:=by
 rw [Dm,Ci]
 unfold AD
 rw [List.length_map,List.length_range]
 rfl
theorem Hf (VN:List Int)(ch:Nat→Bool)(mv:Int):∀i,i≤9→((List.range i).filter ch).map (fun j=>((AD VN ch mv 9).map (AH 1 (AD VN ch mv 9))).getD j 0)=(AE VN ch i).map (AH 1 (AD VN ch mv 9)):=fun i hi=>by
 unfold AE
 rw [List.map_map]
 refine List.map_congr_left fun j hj=>?_
 obtain⟨h1,h2⟩:=List.mem_filter.mp hj
 have hj9:j<9:=by have:=List.mem_range.mp h1;exact Nat.lt_of_lt_of_le ‹_› ‹_›
 have e:(AD VN ch mv 9)[j]?=some (VN.getD j 0):=by
  unfold AD
  simp [h2,hj9]
 rw [List.getD_eq_getElem?_getD,List.getElem?_map,e]
 rfl
section
variable{prog:Program}{w:World}{A:Around}{E:Value→Shared→Prop}{s:Shared}{Q:Value→Shared→Prop}{h₀:Heap}{L l:Addr}{m:Str→Option Value}{news:List (Addr×Obj)}{us:List Value}{k:Int}{ks:List Int}
theorem GZ (hh:A.handled=none)(F:Fr h₀ L s.heap m)(N:News h₀ L s.heap news)(hls:s.heap.IsList l us.toArray)(hU:AU us (k::ks))(h0:∀q∈k::ks,0<q)(hs:(k::ks).sum<2^53)(hk:k<2^53)
  (h:∀h' tk t,Fr h₀ L h' m→News h₀ L h' news→Q (.float (hf (k::ks).sum) t) {s with heap:=h',toks:=tk}):
  wpAny (model prog w) A (call (.builtin "sum") [.ref l]) Q E s:=by
 refine Flt.call_sum_walkF (Jp h0 hs hk) (Flt.iter_list_ hls fun s₂ e st hfp hlI=>?_)
 subst e
 have W:=(Walks.list (prog:=prog) (w:=w) (A:=A.in1) hh _ l hlI us.toArray).toS
 have hlen:us.toArray.size=((k::ks).map fun k=>WData.float (hf k)).length:=by rw [List.size_toArray,hU.1,List.length_map]
 rw [hlen] at W
 refine⟨_,_,_,_,_,_,rfl,W,st,hfp,fun i v hP=>?_,fun s' v hv hm=>?_⟩
 ·have hP':us[i]?=some v:=by simpa using hP
  have hi:i<(k::ks).length:=by rw [←hU.1];exact(List.getElem?_eq_some_iff.mp hP').1
  obtain⟨t,e⟩:=hU.2 i _ (List.getElem?_eq_getElem hi)
  rw [hP'] at e
  obtain rfl:=Option.some.inj e
  exact⟨.float (hf (k::ks)[i]),by rw [List.getElem?_map,List.getElem?_eq_getElem hi];rfl,.float _ t⟩
 ·obtain⟨hp,g,d,tk,os⟩:=s'
  have kp:=Flt.kept_iter hm.heap
  have e1:g=s.gens:=hm.gens
  have e2:d=s.drawn:=hm.drawn
  have e3:os=s.os:=hm.os
  subst e1 e2 e3
  cases hv
  exact h hp tk _ (F.grownK kp) (N.grown kp)
end
theorem E8 {VN:List Int}{ch:Nat→Bool}{mv:Int}{i:Nat}(h:ch i=true):AD VN ch mv (i+1)=AD VN ch mv i++ [VN.getD i 0]:=by
 unfold AD
 rw [List.range_succ,List.map_append]
 simp [h]
theorem Fu {VN:List Int}{ch:Nat→Bool}{mv:Int}{i:Nat}(h:ch i=false):AD VN ch mv (i+1)=AD VN ch mv i++ [VN.getD i 0+mv]:=by
 unfold AD
 rw [List.range_succ,List.map_append]
 simp [h]
theorem BG (VN:List Int)(ch:Nat→Bool)(mv:Int)(i:Nat):(AD VN ch mv i).length=i:=by
 unfold AD
 simp
noncomputable def Df:Prop:=True
theorem Gx:AU [] []:=⟨rfl,fun _ _ h=>nomatch h⟩
theorem Fz {us:List Value}{ks:List Int}(h:AU us ks)(k:Int)(t:Tok):AU (us++ [.float (hf k) t]) (ks++ [k]):=by
 refine⟨by rw [List.length_append,List.length_append,h.1];rfl,fun j q hq=>?_⟩
 rcases Nat.lt_trichotomy j ks.length with hj|hj|hj
 ·rw [List.getElem?_append_left hj] at hq
  rw [List.getElem?_append_left (by rw [h.1];exact hj)]
  exact h.2 j q hq
 ·subst hj
  rw [List.getElem?_append_right (Nat.le_refl _),Nat.sub_self] at hq
  obtain rfl:=Option.some.inj hq
  exact⟨t,by rw [←h.1,List.getElem?_append_right (Nat.le_refl _),Nat.sub_self];rfl⟩
 ·rw [List.getElem?_eq_none (by simp;exact Nat.succ_le_of_lt ‹_›)] at hq
  exact nomatch hq
theorem IK (VN:List Int)(p:Nat→Bool):(AG (AE VN p 9) (AE VN (fun j=>!p j) 9)).length≤81:=by
 rw [Bo]
 exact Nat.mul_le_mul (BV VN p 9) (BV VN _ 9)
theorem CJ {k:Int}:∀{ks:List Int},(∀q∈ks,0<q)→0≤ks.sum
 | [],_=>Int.le_refl 0
 |a::r,h=>by
  have h1:=h a (.head _)
  have h2:=CJ (k:=k) (ks:=r) fun q hq=>h q (.tail _ hq)
  rw [List.sum_cons]
  exact Ar.q320 h1 h2
theorem C7 {f:Int→Int}{B:Int}:∀{l:List Int},(∀x∈l,f x≤B)→(l.map f).sum≤B*l.length
 | [],_=>by simp
 |a::r,h=>by
  have h1:=h a (.head _)
  have h2:=C7 (f:=f) (l:=r) fun q hq=>h q (.tail _ hq)
  rw [List.map_cons,List.sum_cons,List.length_cons,Int.natCast_succ,Int.mul_add,Int.mul_one]
  exact Ar.r97 h1 h2
theorem KL (a b:Int):BL a b≤2:=by
 unfold BL
 split
 ·exact Int.le_refl 2
 ·split<;>decide
theorem Hs (VN:List Int)(ch:Nat→Bool)(mv x:Int):AH 1 (AD VN ch mv 9) x≤19:=by
 rw [Ff]
 have:=C7 (f:=BL x) (B:=2) (l:=AD VN ch mv 9) fun y _=>KL x y
 rw [BG] at this
 exact Int.add_le_add_right this 1
theorem Go (VN:List Int)(ch:Nat→Bool)(mv:Int):((AE VN ch 9).map (AH 1 (AD VN ch mv 9))).sum≤171:=by
 have h1:=C7 (f:=AH 1 (AD VN ch mv 9)) (B:=19) (l:=AE VN ch 9) fun y _=>Hs VN ch mv y
 have h2:=BV VN ch 9
 exact Int.le_trans h1 (Int.mul_le_mul_of_nonneg_left (Int.ofNat_le.mpr h2) (by decide))
section
variable{prog:Program}{w:World}{A:Around}{E:Value→Shared→Prop}{s:Shared}{Q:Value→Shared→Prop}{h₀:Heap}{L l:Addr}{m:Str→Option Value}{news:List (Addr×Obj)}{us:List Value}{ks:List Int}
theorem DK (hh:A.handled=none)(F:Fr h₀ L s.heap m)(N:News h₀ L s.heap news)(hls:s.heap.IsList l us.toArray)(hU:AU us ks)(hne:ks≠ [])(h0:∀q∈ks,0<q)(hs:ks.sum<2^53)
  (h:∀h' tk t,Fr h₀ L h' m→News h₀ L h' news→Q (.float (hf ks.sum) t) {s with heap:=h',toks:=tk}):
  wpAny (model prog w) A (call (.builtin "sum") [.ref l]) Q E s:=by
 cases ks with
 |nil=>exact absurd rfl hne
 |cons k ks=>
  have h1:=CJ (k:=0) (ks:=ks) fun q hq=>h0 q (.tail _ hq)
  refine GZ hh F N hls hU h0 hs ?_ h
  rw [List.sum_cons] at hs
  exact Int.lt_of_le_of_lt (Int.le_add_of_nonneg_right h1) hs
end
theorem Jx {VN:List Int}{ch:Nat→Bool}{mv:Int}{j:Nat}(hj:j<9):((AD VN ch mv 9).map (AH 1 (AD VN ch mv 9)))[j]?=some (((AD VN ch mv 9).map (AH 1 (AD VN ch mv 9))).getD j 0):=by
 rw [List.getD_eq_getElem?_getD,List.getElem?_eq_getElem (by rw [List.length_map,BG];exact hj)]
 rfl
theorem Hu {α:Type}{p:Nat→Bool}{i:Nat}{f:Nat→α}(h:p i=true):((List.range (i+1)).filter p).map f=((List.range i).filter p).map f++ [f i]:=by
 k_extra "01T"
 simp [h]
theorem Iz {α:Type}{p:Nat→Bool}{i:Nat}{f:Nat→α}(h:p i=false):((List.range (i+1)).filter p).map f=((List.range i).filter p).map f:=by
 k_extra "01T"
 simp [h]
section
theorem kw_W40_1:True:=by
 k_with "ar"=>((fail_if_success k_extra "oW40");with_reducible first|assumption|exact Ne.symm ‹_›|exact Int.ofNat_lt.mpr ‹_›|exact Nat.zero_le _|exact Int.natCast_nonneg _|exact Ar.q35 ‹_› ‹_› ‹_› ‹_› ‹_›|exact Ar.q49 ‹_›|exact Ar.q205 ‹_›|exact Ar.r208 ‹_›|exact Ar.r216 ‹_›|exact Ar.r306 ‹_›)
 trivial
section
variable{w:World}{dp un:Nat}{ou:List Env}{gd:Option (List Code)}{s:Shared}{loose:List Str}{mz:ExcName→Option Value}{mg mb:Str→Option Value}{Q:Flow→Shared→Prop}{E:Value→Shared→Prop}{base g:Heap}{L':Addr}{m:Str→Option Value}{name qual:Str}{params:Arguments}{body:List Stmt}{scope:Scope}{dV kV doc pm cdv ct oc:Value}{an od:Option Addr}{osl:Array (Option Value)}
theorem kw_W40_2:True:=by
 k_with "Meval ListComp"=>((fail_if_success k_extra "oW40");refine Stop.at ?_)
 k_with "MpyIter ref"=>((fail_if_success k_extra "oW40");refine Stop.at ?_)
 k_with "MpyNext ref"=>((fail_if_success k_extra "oW40");refine Stop.at ?_)
 k_with "Mcall builtin:list.append"=>((fail_if_success k_extra "oW40");refine Stop.at ?_)
 k_with "MsubscriptTail"=>((fail_if_success k_extra "oW40");refine Stop.at ?_)
 k_with "MsubscriptTail Name Name ref int"=>((fail_if_success k_extra "oW40");refine Stop.at ?_)
 k_with "Mcall builtin:sum"=>((fail_if_success k_extra "oW40");(rename Df=>q_hsh';refine Stop.at ?_))
 trivial
theorem JL {x I M D a b c e f o1 o2 r0:Addr×Obj}{rest:List (Addr×Obj)}(h:x∈I::M::D::r0::a::b::c::e::f::o1::o2::rest):x∈I::r0::a::b::c::e::f::D::M::o1::o2::rest:=by
 revert x I M D a b c e f o1 o2 r0 rest
 as_aux_lemma=>
 intro pick_ x I M D a b c e f o1 o2 r0 rest
 intro h
 simp only [List.mem_cons] at h⊢
 rcases h with h|h|h|h|h|h|h|h|h|h|h|h<;>simp [h]
theorem H6 {x M D a b c e f o1 o2 r0:Addr×Obj}{rest:List (Addr×Obj)}(h:x∈r0::a::b::c::e::f::o1::o2::rest):x∈r0::a::b::c::e::f::D::M::o1::o2::rest:=
 Bj [0,1,2,3,4,5,8,9] 10 rfl h
theorem JM {x M D a b c e f o1 o2 r0:Addr×Obj}{rest:List (Addr×Obj)}(h:x∈rest):x∈M::D::r0::a::b::c::e::f::o1::o2::rest:=
 Bj [] 10 rfl h
theorem KB {x R D' M I D:Addr×Obj}{r:List (Addr×Obj)}(h:x∈D::R::M::I::r):x∈R::D'::M::I::D::r:=
 Bj [4,0,2,3] 5 rfl h
theorem KA {x R M I D:Addr×Obj}{r:List (Addr×Obj)}(h:x∈I::M::D::r):x∈D::R::M::I::r:=
 Bj [3,2,0] 4 rfl h
theorem H5 {V Ch Mi Ga Mo:Addr}{zs bs us us3 mo:List Value}{VN MV:List Int}{cc cb ce cg co T1:Nat}{b:Int}{rest:List (Addr×Obj)}{cV cC cM cD:Obj}
  (hlook:(Mine.hd.heap_39 w.params).lookup 401=some ⟨oc,od,.func (fnOf name qual params body scope dV kV doc pm an cdv ct),osl⟩)
  (hd:dp≤310) (hu:un≤2000) (X:(Mine.hd.heap_39 w.params).In base) (T:Top Mine.hd.view_39 loose mz mg mb base) (B:Below (AR dp un (some ou) gd) base ou g) (D:KtsDicts (AF ou) g)
  (F:Fr g L' s.heap m) (N:News g L' s.heap ((Mo,listOf mo.toArray co)::(Ga,listOf us3.toArray cg)::(Mi,listOf us.toArray ce)::(Ch,listOf bs.toArray cb)::(V,listOf zs.toArray cc)::(L'+1+1+1+1+1+1+1,cD)::(L'+1+1+1+1+1+1,cM)::(L'+1+1+1+1,cC)::(L'+1,cV)::rest))
  (hm:Has m [(Str.ofString "moves",.ref Mo),(Str.ofString "gaps",.ref Ga),(Str.ofString "mine",.ref Mi)]) (hcV:cV.data= .cell (some (.ref V))) (hcC:cC.data= .cell (some (.ref Ch))) (hcM:cM.data= .cell none) (hcD:cD.data= .cell none)
  (hrest:∀q∈rest,@Ne Nat q.1 (L'+1+1+1+1+1+1)∧@Ne Nat q.1 (L'+1+1+1+1+1+1+1))
  (hmo:IntsAre mo (0::MV)) (hzs:IntsAre zs VN) (hzl:VN.length=9) (hbs:bs=(List.range 9).map (fun j=>Value.bool (AA b j))) (hus:IntsAre us (AE VN (AA b) 9)) (hus3:IntsAre us3 (AG (AE VN (AA b) 9) (AE VN (fun j=>!AA b j) 9)))
  (hMV:MV.length≤2) (hne:MV≠ []→1≤(AE VN (AA b) 9).length) (hT1:0<T1) (hTs:T1≤s.toks) (tok0:∀m (t:Nat),Value.int m t∈zs→t≠0∧t<T1) (tok1:∀m k t,Value.int m t∈zs→Value.int k t∈zs→m=k)
  (hE:PassesOwn (model PR w) ((AR dp un (some ou) gd).deeper (envOfC qual scope L' 401 cdv)) (envOfC qual scope L' 401 cdv) E)
  (h:∀g' mm h' tk',KtsTurn (AF ou) g g'→Fr g' L' h' mm→News g' L' h' rest→Q (.ret (.bool true)) {s with heap:=h',toks:=tk'}):
  wpAny (model PR w) ((AR dp un (some ou) gd).deeper (envOfC qual scope L' 401 cdv)) (execs (body.drop 11) (envOfC qual scope L' 401 cdv)) Q E s:=by
 revert w dp un ou gd s loose mz mg mb Q E base g L' m name qual params body scope dV kV doc pm cdv ct oc an od osl V Ch Mi Ga Mo zs bs us us3 mo VN MV cc cb ce cg co T1 b rest cV cC cM cD
 as_aux_lemma=>
 intro pick_ w dp un ou gd s loose mz mg mb Q E base g L' m name qual params body scope dV kV doc pm cdv ct oc an od osl V Ch Mi Ga Mo zs bs us us3 mo VN MV cc cb ce cg co T1 b rest cV cC cM cD
 intro hlook hd hu X T B D F N hm hcV hcC hcM hcD hrest hmo hzs hzl hbs hus hus3 hMV hne hT1 hTs tok0 tok1 hE h
 k_extra "04p"
 (case k=>k_is)
 intro q
 cases q
 clear hlook
 k_extra "02K"
 k_extra "02o"
 have F1:=hm.fr F
 change wpAny _ _ (execs (_::_) _) _ _ _
 refine wpAny_execs_cons ?_
 refine LO (AR dp un (some ou) gd) base ou g L' ?_ (hE:=hE)
 clear F hm hE
 refine Aj ?_
 k_steps
 rename Fr _ _ _ _=>F2
 rename News _ _ _ _=>N2
 rename _≤Shared.toks _=>hl0
 rename IntsAre _ (List.drop 1 (0::MV))=>hws0
 k_extra "03"
 obtain⟨Ls,ws,rfl,hws,m3,hm3,F3,N3⟩:Ex2 fun Ls ws=>Ea (Ls=_) (IntsAre ws MV) (∃mm,Ea (Has mm [(Str.ofString "moves",.ref Mo),(Str.ofString "gaps",.ref Ga),(Str.ofString "mine",.ref Mi)]) (Fr g L' _ mm) (News g L' _ ((Ls,listOf ws.toArray 0)::(Mo,listOf mo.toArray co)::(Ga,listOf us3.toArray cg)::(Mi,listOf us.toArray ce)::(Ch,listOf bs.toArray cb)::(V,listOf zs.toArray cc)::(L'+1+1+1+1+1+1+1,cD)::(L'+1+1+1+1+1+1,cM)::(L'+1+1+1+1,cC)::(L'+1,cV)::rest))):=
  ⟨_,_,rfl,hws0,_,⟨rfl,rfl,rfl,trivial⟩,F2,N2⟩
 clear F2 N2 hws0
 have cM6:=fun q hq hs=>B9 (q:=q) N3 mm7 hcM hq hs
 have cD7:=fun q hq hs=>B9 (q:=q) N3 mm6 hcD hq hs
 have hM6:∀q∈(Ls,listOf ws.toArray 0)::(Mo,listOf mo.toArray co)::(Ga,listOf us3.toArray cg)::(Mi,listOf us.toArray ce)::(Ch,listOf bs.toArray cb)::(V,listOf zs.toArray cc)::(L'+1+1+1+1,cC)::(L'+1,cV)::rest,@Ne Nat q.1 (L'+1+1+1+1+1+1):=fun q hq=>by
  k_extra "07"
  ·exact cM6 _ (.head _) ⟨_,_,rfl⟩
  k_extra "07"
  ·exact cM6 _ mm1 ⟨_,_,rfl⟩
  k_extra "07"
  ·exact cM6 _ mm2 ⟨_,_,rfl⟩
  k_extra "07"
  ·exact cM6 _ mm3 ⟨_,_,rfl⟩
  k_extra "07"
  ·exact cM6 _ mm4 ⟨_,_,rfl⟩
  k_extra "07"
  ·exact cM6 _ mm5 ⟨_,_,rfl⟩
  k_extra "07"
  ·k_extra "057"
  k_extra "07"
  ·k_extra "057"
  ·exact(hrest q hq).1
 have hD7:∀q∈(Ls,listOf ws.toArray 0)::(Mo,listOf mo.toArray co)::(Ga,listOf us3.toArray cg)::(Mi,listOf us.toArray ce)::(Ch,listOf bs.toArray cb)::(V,listOf zs.toArray cc)::(L'+1+1+1+1,cC)::(L'+1,cV)::rest,@Ne Nat q.1 (L'+1+1+1+1+1+1+1):=fun q hq=>by
  k_extra "07"
  ·exact cD7 _ (.head _) ⟨_,_,rfl⟩
  k_extra "07"
  ·exact cD7 _ mm1 ⟨_,_,rfl⟩
  k_extra "07"
  ·exact cD7 _ mm2 ⟨_,_,rfl⟩
  k_extra "07"
  ·exact cD7 _ mm3 ⟨_,_,rfl⟩
  k_extra "07"
  ·exact cD7 _ mm4 ⟨_,_,rfl⟩
  k_extra "07"
  ·exact cD7 _ mm5 ⟨_,_,rfl⟩
  k_extra "07"
  ·k_extra "057"
  k_extra "07"
  ·k_extra "057"
  ·exact(hrest q hq).2
 clear cM6 cD7
 intro clo_ Ls ws p_ hws x_ d_ m3 p_ hm3 F3 N3 hM6 hD7
 refine Ad F3 N3 ⟨_,(N3 _ (.head _)).1,rfl,0,rfl⟩ fun I h4 F4 N4 l4=>?_
 clear F3 N3
 intro clo_ I h4 p_ F4 N4 l4
 refine⟨fun k mm nw=>Ex6 fun(i:Nat) (oI oM oD:Obj) (zM zD:Option Value)=>IY (k+i=MV.length) (nw=(I,oI)::(L'+1+1+1+1+1+1,oM)::(L'+1+1+1+1+1+1+1,oD)::(Ls,listOf ws.toArray 0)::(Mo,listOf mo.toArray co)::(Ga,listOf us3.toArray cg)::(Mi,listOf us.toArray ce)::(Ch,listOf bs.toArray cb)::(V,listOf zs.toArray cc)::(L'+1+1+1+1,cC)::(L'+1,cV)::rest) (oI.cls= .type "list_iterator") (oI.data= .fields #[.ref Ls,.int (i:Nat) 0]) (oM.data= .cell zM) (oD.data= .cell zD) (Has mm [(Str.ofString "moves",.ref Mo),(Str.ofString "gaps",.ref Ga),(Str.ofString "mine",.ref Mi)]),MV.length,_,_,g,⟨KtsTurn.refl,F4,fun p hp=>N4 p (JL hp),B,D⟩,⟨0,{cls:=.type "list_iterator",data:=.fields #[.ref Ls,.int 0 0]},cM,cD,none,none,rfl,rfl,rfl,rfl,hcM,hcD,hm3⟩,?_⟩
 have lI6:@Ne Nat I (L'+1+1+1+1+1+1):=Nat.ne_of_gt (l4 (L'+1+1+1+1+1+1,cM) mm7)
 have lI7:@Ne Nat I (L'+1+1+1+1+1+1+1):=Nat.ne_of_gt (l4 (L'+1+1+1+1+1+1+1,cD) mm6)
 have lIr:∀q∈(Ls,listOf ws.toArray 0)::(Mo,listOf mo.toArray co)::(Ga,listOf us3.toArray cg)::(Mi,listOf us.toArray ce)::(Ch,listOf bs.toArray cb)::(V,listOf zs.toArray cc)::(L'+1+1+1+1,cC)::(L'+1,cV)::rest,@Ne Nat q.1 I:=fun q hq=>Nat.ne_of_lt (l4 q (H6 hq))
 clear F4 N4 l4 B D X' T' hcM hcD hm3
 rintro k1 m₁ nw₁ h₁ tk₁ g₁ htk₁ G₁ ⟨i,oI,oM,oD,zM,zD,hk,rfl,cI,dI,dM,dD,hm1⟩
 have htkT:T1≤tk₁:=Nat.le_trans hTs (Nat.le_trans hl0 htk₁)
 have F5:=hm1.fr G₁.fr
 have N5:=G₁.news
 have B5:=G₁.below
 have D5:=G₁.dicts
 have t5:=G₁.turn
 have X5:(Mine.hd.heap_39 w.params).In g₁:=X.keeps B5.stays
 have P5:Top Mine.hd.view_39 loose mz mg mb g₁:=T.keeps B5.stays
 clear G₁ hm1 htk₁
 intro clo_ k1 m₁ h₁ tk₁ g₁ i oI oM oD zM zD p_ hk cI dI dM dD htkT F5 N5 B5 D5 t5 X5 P5
 refine Ao rfl F5 N5 cI dI ⟨_,(N5 _ mm3).1,rfl,0,rfl⟩ (List.forall_mem_cons.mpr ⟨lI6.symm,List.forall_mem_cons.mpr ⟨lI7.symm,lIr⟩⟩) ?_ ?_
 ·intro x hx h6 oI' cI' dI' F6 N6
  k_extra "01l"
  k_extra "04Y"
  have hi9:i<MV.length:=by have:=(List.getElem?_eq_some_iff.mp hx).1;rw [AC hws] at this;exact this
  have hne1:=hne (fun e=>by rw [e] at hi9;exact absurd hi9 (Nat.not_lt_zero _))
  have ex:x= .int (MV.getD i 0) (BE (ws.getD i .none)):=by
   have:=Bs hws (k:=i) hi9
   rw [hx] at this
   k_extra "02y"
  subst ex
  generalize MV.getD i 0=mv at*
  generalize BE (ws.getD i .none)=tmv at*
  clear F5 N5 hx
  intro clo_ h6 oI' p_ cI' dI' F6 N6 d_ mv tmv
  k_extra "02A"
  k_extra "02k"
  refine FI F6 (AM N6) (List.forall_mem_cons.mpr ⟨lI6,List.forall_mem_cons.mpr ⟨Nat.ne_of_gt (by omega),hM6⟩⟩) dM rfl (fun h7 oM' dM' F7 N7=>?_) rfl rfl
  clear F6 N6
  intro clo_ h7 oM' p_ dM' F7 N7
  refine wpAny_execs_cons ?_
  refine wpAny_Assign_Name (hs:=rfl) ?_
  refine Call_ ?_
  refine Aj ?_
  k_steps
  rename Shared.toks _≤_=>hl2
  dsimp only at hl2
  k_extra "0S"
  k_extra "0C"
  k_extra "03"
  k_extra "012"
  refine Aj ?_
  k_steps
  k_extra "04q"
  dsimp only at hl1
  k_extra "01X"
  k_extra "01p"
  rename IsRange _ _ _ _ _ _ _ _=>R9
  k_extra "03"
  refine Bf F9 N9 R9 (Int.le_refl 0) (by decide) (by decide) fun I2 h10 F10 N10 l10=>?_
  intro clo_ I2 h10 p_ F10 N10 l10
  k_extra "01Q"
  intro g2 D2 C2 h₁ kk1 kk2 F11 N11 lD lC2 lX
  intro clo_ g2 D2 C2 h₁ p_ kk1 kk2 F11 N11 lD lC2 lX
  k_extra "056"
  refine⟨fun k tk mm nw=>Ex3 fun(j:Nat) (qs:List Value) (cq:Nat)=>DJ (k+j=9) (nw=(I2,AJ j (9-j) 1)::(D2,listOf qs.toArray cq)::(L'+1+1+1+1+1+1,oM')::(I,oI')::(L'+1+1+1+1+1+1+1,oD)::(Ls,listOf ws.toArray 0)::(Mo,listOf mo.toArray co)::(Ga,listOf us3.toArray cg)::(Mi,listOf us.toArray ce)::(Ch,listOf bs.toArray cb)::(V,listOf zs.toArray cc)::(L'+1+1+1+1,cC)::(L'+1,cV)::rest) (qs.length=j) (IntsAre qs (AD VN (AA b) mv j)) (Ak zs T1 qs tk) (T1≤tk),9,_,_,F11,AM N11,⟨0,[],0,rfl,rfl,rfl,.nil,.nil,by show T1≤_;dsimp only;exact Nat.le_trans ‹_› ‹_›⟩,?_⟩
  have neI:∀q∈(L'+1+1+1+1+1+1,oM')::(I,oI')::(L'+1+1+1+1+1+1+1,oD)::(Ls,listOf ws.toArray 0)::(Mo,listOf mo.toArray co)::(Ga,listOf us3.toArray cg)::(Mi,listOf us.toArray ce)::(Ch,listOf bs.toArray cb)::(V,listOf zs.toArray cc)::(L'+1+1+1+1,cC)::(L'+1,cV)::rest,q.1≠I2:=fun q hq=>Nat.ne_of_lt (l10 q hq)
  have neD:∀q∈(L'+1+1+1+1+1+1,oM')::(I,oI')::(L'+1+1+1+1+1+1+1,oD)::(Ls,listOf ws.toArray 0)::(Mo,listOf mo.toArray co)::(Ga,listOf us3.toArray cg)::(Mi,listOf us.toArray ce)::(Ch,listOf bs.toArray cb)::(V,listOf zs.toArray cc)::(L'+1+1+1+1,cC)::(L'+1,cV)::rest,q.1≠D2:=fun q hq=>Nat.ne_of_lt (lD q (.tail _ hq))
  k_extra "02Z"
  have lD7:@LT.lt Nat _ (L'+1+1+1+1+1+1+1) D2:=lD (L'+1+1+1+1+1+1+1,oD) mm3
  clear F9 N9 R9 F10 N10 F11 N11 l10 lD kk2 lX lC2
  rintro k2 tk2 m₂ nw₂ h₂ F₂ N₂ ⟨j,qs,cq,hk2,rfl,hql,hqs,hmx,htk2⟩
  intro clo_ k2 tk2 m₂ h₂ p_ F₂ d_ j qs cq p_ hk2 hql hqs hmx htk2 N₂
  k_extra "0F"
  ·k_extra "05w"
   k_extra "0r"
   have hj9:j<9:=by exact Ar.q16 hk2 hlt
   k_extra "01V"
   clear F₂ N₂
   k_extra "01m"
   k_extra "02A"
   k_extra "02k"
   k_extra "03l"
   have hle4:tk2+1≤tk4:=hle
   clear hle F3 N3
   k_extra "05u"
   have hz:=Bs hzs (k:=j) (by exact Ar.rl ‹_› ‹_›)
   have hzm:Value.int (VN.getD j 0) (BE (zs.getD j .none))∈zs:=List.mem_of_getElem? hz
   have hzt:=tok0 _ _ hzm
   cases hc:AA b j with
   |true=>
    intro clo_ h4 tk4 p_ F4 N4 hle4
    k_steps
    k_extra "03"
    k_extra "0e"
    k_extra "0a"
    refine Bm (d:=Ch) (n:=cb) (v:=.bool true) N5 mm9 (by exact Ar.z0) (by exact Ar.zupL ‹_› (by decide)) (by rw [hbs,BN hj9,hc]) ?_
    k_steps
    k_extra "03"
    k_extra "0G"
    k_extra "0x"
    k_extra "0s"
    k_steps
    k_extra "022"
    k_extra "01b"
    k_extra "03"
    k_extra "0n"
    k_extra "04a"
    refine Az.intro F8 N8 (n':=k2-1) (by exact Ar.cdP ‹_› ‹_›) ⟨j+1,_,cq+1,by exact Ar.cd ‹_› ‹_›,rfl,by rw [List.length_append,hql];rfl,Bb hqs (E8 hc),(hmx.own hzm hzt.1 hzt.2 htk2).mono ?_,?_⟩
    all_goals dsimp only
    all_goals omega
   |false=>
    intro clo_ h4 tk4 p_ F4 N4 hle4
    k_steps
    k_extra "03"
    k_extra "0e"
    k_extra "0a"
    refine Bm (d:=Ch) (n:=cb) (v:=.bool false) N5 mm9 (by exact Ar.z0) (by exact Ar.zupL ‹_› (by decide)) (by rw [hbs,BN hj9,hc]) ?_
    k_steps
    k_extra "03"
    k_extra "0G"
    k_extra "0x"
    k_extra "0s"
    k_steps
    k_extra "022"
    k_extra "01b"
    k_extra "03"
    k_extra "0n"
    k_extra "04a"
    refine Az.intro F8 N8 (n':=k2-1) (by exact Ar.cdP ‹_› ‹_›) ⟨j+1,_,cq+1,by exact Ar.cd ‹_› ‹_›,rfl,by rw [List.length_append,hql];rfl,Bb hqs (Fu hc),hmx.new hT1 htk2 ?_ ?_,?_⟩
    all_goals dsimp only
    all_goals omega
  ·intro hge h3 F3 N3
   k_extra "0r"
   k_extra "01m"
   obtain rfl:j=9:=by exact Ar.q33 hk2 hge
   k_extra "0N"
   k_extra "04y"
   k_extra "03L"
   k_steps
   k_extra "0e"
   k_extra "0a"
   k_extra "03"
   obtain⟨F5',N5'⟩:Fr g₁ L' _ _∧News g₁ L' _ _:=⟨F5,N5⟩
   have G0:Gnd (AR dp un (some ou) gd) base ou g L' _ _ _ g₁:=⟨t5,F5',N5',B5,D5⟩
   have hD2:=N5' (D2,listOf qs.toArray cq) (.head _)
   refine Ca (by rw [BG];decide) (As B5 D5 F5') X T (show dp+1≤400 by exact Ar.up ‹_› (by rfl)) (show un+3≤7000 by exact Ar.up ‹_› (by rfl)) hD2.1 (fresh_of_stays B5.stays hD2.2.2) hqs (by rw [BG];decide) (fun m t hm=>(hmx.1 m t hm).1) (hmx.one tok1) fun h10 tk10 R rs e1 i1 f1 U1=>?_
   intro clo_ h10 tk10 R rs p_ e1 i1 f1 U1
   obtain⟨g3,G3⟩:=G0.add U1 f1 e1
   clear F5 N5 F5' N5' B5 D5 X5 P5 G0 U1 f1 e1 hD2 kk1 hmx hqs
   intro clo_ g3 p_ G3
   obtain⟨t6,F6,N6,B6,D6⟩:=G3
   have X6:(Mine.hd.heap_39 w.params).In g3:=X.keeps B6.stays
   have P6:Top Mine.hd.view_39 loose mz mg mb g3:=T.keeps B6.stays
   have hR7:=B9 (q:=(R,listOf rs.toArray 0)) N6 mm4 dD (.head _) ⟨_,_,rfl⟩
   refine FI (rest:=(R,listOf rs.toArray 0)::(L'+1+1+1+1+1+1,oM')::(I,oI')::(Ls,listOf ws.toArray 0)::(Mo,listOf mo.toArray co)::(Ga,listOf us3.toArray cg)::(Mi,listOf us.toArray ce)::(Ch,listOf bs.toArray cb)::(V,listOf zs.toArray cc)::(L'+1+1+1+1,cC)::(L'+1,cV)::rest) F6 (fun p hp=>N6 p (KB hp)) (List.forall_mem_cons.mpr ⟨hR7,List.forall_mem_cons.mpr ⟨Nat.ne_of_lt (by omega),List.forall_mem_cons.mpr ⟨lI7,hD7⟩⟩⟩) dD rfl (fun h11 oD' dD' F7 N7=>?_) rfl rfl
   clear F6 N6 hR7
   intro clo_ h11 oD' p_ dD' F7 N7
   k_steps
   k_extra "0S"
   k_extra "0C"
   intro clo_ tk
   k_extra "03"
   k_extra "012"
   k_steps
   k_extra "01X"
   k_extra "01p"
   k_extra "03"
   refine Ad F9 N9 ⟨_,(N9 (Ga,listOf us3.toArray cg) mm6).1,rfl,cg,rfl⟩ fun I3 h12 F10 N10 l10=>?_
   intro clo_ I3 h12 p_ F10 N10 l10
   refine⟨fun s' hs' Q E hQ=>wpAny_pyIter_listiter (l:=Ga) (i:=0) ⟨_,hs' _ _ (N10 _ (.head _)).1,rfl,rfl⟩ hQ,_,F10,N10,?_⟩
   intro g4 D3 C3 h₁ kk1 kk2 F11 N11 lD lC2 lX
   intro clo_ g4 D3 C3 h₁ p_ kk1 kk2 F11 N11 lD lC2 lX
   refine Ai (g':=g4) (C:=C3) ?_
   refine⟨fun k tk mm nw=>Ex4 fun(j:Nat) (as:List Value) (oK:Obj) (ca:Nat)=>DJ (k+j=us3.length) (nw=(I3,oK)::(D3,listOf as.toArray ca)::(L'+1+1+1+1+1+1+1,oD')::(R,listOf rs.toArray 0)::(L'+1+1+1+1+1+1,oM')::(I,oI')::(Ls,listOf ws.toArray 0)::(Mo,listOf mo.toArray co)::(Ga,listOf us3.toArray cg)::(Mi,listOf us.toArray ce)::(Ch,listOf bs.toArray cb)::(V,listOf zs.toArray cc)::(L'+1+1+1+1,cC)::(L'+1,cV)::rest) (oK.cls= .type "list_iterator") (oK.data= .fields #[.ref Ga,.int (j:Nat) 0]) (as.length=j) (IntsAre as (((AG (AE VN (AA b) 9) (AE VN (fun j=>!AA b j) 9)).take j).map (HD mv))),us3.length,_,_,F11,AM N11,⟨0,[],{cls:=.type "list_iterator",data:=.fields #[.ref Ga,.int 0 0]},0,rfl,rfl,rfl,rfl,rfl,.nil⟩,?_⟩
   have neI:∀q∈(L'+1+1+1+1+1+1+1,oD')::(R,listOf rs.toArray 0)::(L'+1+1+1+1+1+1,oM')::(I,oI')::(Ls,listOf ws.toArray 0)::(Mo,listOf mo.toArray co)::(Ga,listOf us3.toArray cg)::(Mi,listOf us.toArray ce)::(Ch,listOf bs.toArray cb)::(V,listOf zs.toArray cc)::(L'+1+1+1+1,cC)::(L'+1,cV)::rest,q.1≠I3:=fun q hq=>Nat.ne_of_lt (l10 q hq)
   have neD:∀q∈(L'+1+1+1+1+1+1+1,oD')::(R,listOf rs.toArray 0)::(L'+1+1+1+1+1+1,oM')::(I,oI')::(Ls,listOf ws.toArray 0)::(Mo,listOf mo.toArray co)::(Ga,listOf us3.toArray cg)::(Mi,listOf us.toArray ce)::(Ch,listOf bs.toArray cb)::(V,listOf zs.toArray cc)::(L'+1+1+1+1,cC)::(L'+1,cV)::rest,q.1≠D3:=fun q hq=>Nat.ne_of_lt (lD q (.tail _ hq))
   k_extra "030"
   clear F9 N9 F10 N10 F11 N11 l10 lD kk2 lX lC2
   have h81:=IK VN (AA b)
   rintro k2 tk2 m₂ nw₂ h₂ F₂ N₂ ⟨j,as,oK,ca,hk2,rfl,cK,dK,hal,has⟩
   intro clo_ k2 tk2 m₂ h₂ p_ F₂ d_ j as oK ca p_ hk2 cK dK hal has N₂
   refine Ao rfl F₂ N₂ cK dK ⟨_,(N₂ (Ga,listOf us3.toArray cg) (by simp)).1,rfl,cg,rfl⟩ (List.forall_mem_cons.mpr ⟨nID.symm,neI⟩) ?_ ?_
   ·intro x hx h3 oK' cK' dK' F3 N3
    k_extra "0r"
    have hgl:=AC hus3
    have hj9:j<us3.length:=(List.getElem?_eq_some_iff.mp hx).1
    have ex:x= .int ((AG (AE VN (AA b) 9) (AE VN (fun j=>!AA b j) 9)).getD j 0) (BE (us3.getD j .none)):=by
     have:=Bs hus3 (k:=j) (by exact Ar.rr ‹_› ‹_›)
     rw [hx] at this
     k_extra "02y"
    subst ex
    clear F₂ N₂ hx
    intro clo_ h3 oK' p_ cK' dK' F3 N3
    k_steps
    all_goals
     k_extra "0e"
     k_extra "0a"
     k_extra "03"
     refine AP F5 N5 (.tail nID (.head neD)) (by exact Ar.q35 h81 hk2 hal hgl hj9) fun h8 F8 N8=>?_
     k_extra "04a"
     refine Az.intro F8 N8 (n':=k2-1) (by exact Ar.cdP ‹_› ‹_›) ⟨j+1,_,oK',ca+1,by exact Ar.cd ‹_› ‹_›,rfl,cK',dK',by rw [List.length_append,hal];rfl,BW has (by exact Ar.rr ‹_› ‹_›) ?_⟩
     unfold HD
     split
     all_goals first
      |(first|decide|omega)
      |(split<;>omega)
   ·intro hx h3 F3 N3
    k_extra "0r"
    have hgl:=AC hus3
    k_extra "01m"
    obtain hj9:j=us3.length:=by have:=List.getElem?_eq_none_iff.mp hx;exact Ar.ce ‹_› ‹_›
    k_extra "0N"
    k_extra "04y"
    rw [hj9,List.take_of_length_le (by exact Nat.le_of_eq hgl.symm)] at has
    k_extra "03L"
    k_steps
    k_extra "0e"
    k_extra "0a"
    intro clo_ tk
    obtain⟨AB,tAB,hAB⟩:Ex2 fun AB tAB=>Value.int AB tAB=Value.int (((AG (AE VN (AA b) 9) (AE VN (fun j=>!AA b j) 9)).map (HD mv))).sum _:=⟨_,_,rfl⟩
    have hAB':=(Value.int.inj hAB).1
    rw [←hAB] at F5
    intro clo_ AB tAB p_ F5 hAB hAB'
    obtain⟨m5,hm5,F6⟩:∃mm,Has mm [(Str.ofString "moves",.ref Mo),(Str.ofString "gaps",.ref Ga),(Str.ofString "mine",.ref Mi),(Str.ofString "above",.int AB tAB)]∧Fr g3 L' _ mm:=⟨_,⟨rfl,rfl,rfl,rfl,trivial⟩,F5⟩
    have F7:=hm5.fr F6
    have N7:News g3 L' _ ((L'+1+1+1+1+1+1+1,oD')::(R,listOf rs.toArray 0)::(L'+1+1+1+1+1+1,oM')::(I,oI')::(Ls,listOf ws.toArray 0)::(Mo,listOf mo.toArray co)::(Ga,listOf us3.toArray cg)::(Mi,listOf us.toArray ce)::(Ch,listOf bs.toArray cb)::(V,listOf zs.toArray cc)::(L'+1+1+1+1,cC)::(L'+1,cV)::rest):=fun p hp=>N5 p (.tail _ hp)
    clear F5 F6 N5 has hAB hal cK dK
    intro clo_ m5 p_ hm5 F7
    k_extra "03"
    refine BU F7 rfl (BI.plain (by decide) rfl) rfl (by decide) ?_
    k_steps
    k_extra "01X"
    k_extra "01p"
    rename IsRange _ _ _ _ _ _ _ _=>R9
    k_extra "03"
    refine Bf F9 N9 R9 (Int.le_refl 0) (by decide) (by decide) fun I4 h10 F10 N10 l10=>?_
    intro clo_ I4 h10 p_ F10 N10 l10
    k_extra "01Q"
    intro g5 D4 C4 h₁ kk1 kk2 F11 N11 lD lC2 lX
    intro clo_ g5 D4 C4 h₁ p_ kk1 kk2 F11 N11 lD lC2 lX
    refine Ai (g':=g5) (C:=C4) ?_
    refine⟨fun k tk mm nw=>Ex3 fun(j:Nat) (qs:List Value) (cq:Nat)=>KR (k+j=9) (nw=(I4,AJ j (9-j) 1)::(D4,listOf qs.toArray cq)::(L'+1+1+1+1+1+1+1,oD')::(R,listOf rs.toArray 0)::(L'+1+1+1+1+1+1,oM')::(I,oI')::(Ls,listOf ws.toArray 0)::(Mo,listOf mo.toArray co)::(Ga,listOf us3.toArray cg)::(Mi,listOf us.toArray ce)::(Ch,listOf bs.toArray cb)::(V,listOf zs.toArray cc)::(L'+1+1+1+1,cC)::(L'+1,cV)::rest) (qs.length≤j) (AU qs (((List.range j).filter (AA b)).map fun j=>((AD VN (AA b) mv 9).map (AH 1 (AD VN (AA b) mv 9))).getD j 0)),9,_,_,F11,AM N11,⟨0,[],0,rfl,rfl,Nat.le_refl 0,Gx⟩,?_⟩
    have neI:∀q∈(L'+1+1+1+1+1+1+1,oD')::(R,listOf rs.toArray 0)::(L'+1+1+1+1+1+1,oM')::(I,oI')::(Ls,listOf ws.toArray 0)::(Mo,listOf mo.toArray co)::(Ga,listOf us3.toArray cg)::(Mi,listOf us.toArray ce)::(Ch,listOf bs.toArray cb)::(V,listOf zs.toArray cc)::(L'+1+1+1+1,cC)::(L'+1,cV)::rest,q.1≠I4:=fun q hq=>Nat.ne_of_lt (l10 q hq)
    have neD:∀q∈(L'+1+1+1+1+1+1+1,oD')::(R,listOf rs.toArray 0)::(L'+1+1+1+1+1+1,oM')::(I,oI')::(Ls,listOf ws.toArray 0)::(Mo,listOf mo.toArray co)::(Ga,listOf us3.toArray cg)::(Mi,listOf us.toArray ce)::(Ch,listOf bs.toArray cb)::(V,listOf zs.toArray cc)::(L'+1+1+1+1,cC)::(L'+1,cV)::rest,q.1≠D4:=fun q hq=>Nat.ne_of_lt (lD q (.tail _ hq))
    k_extra "04B"
    clear F9 N9 R9 F10 N10 F11 N11 l10 lD kk2 lX lC2 hj9 hk2 hx
    rintro k3 tk3 m₂ nw₂ h₂ F₂ N₂ ⟨j,qs,cq,hk2,rfl,hql,hqs⟩
    intro clo_ k3 tk3 m₂ h₂ p_ F₂ d_ j qs cq p_ hk2 hql hqs N₂
    k_extra "0F"
    ·k_extra "05w"
     k_extra "0r"
     have hj9:j<9:=by exact Ar.q16 hk2 hlt
     k_extra "01V"
     clear F₂ N₂
     k_extra "01m"
     k_extra "02A"
     k_extra "02k"
     k_extra "01t"
     clear F3 N3
     k_extra "05u"
     cases hc:AA b j with
     |true=>
      k_extra "02x"
      k_steps
      k_extra "03"
      k_extra "0e"
      k_extra "0a"
      refine Bm (d:=Ch) (n:=cb) (vs:=bs) (v:=.bool true) N5 (by simp) (by exact Ar.z0) (by exact Ar.zupL ‹_› (by decide)) (by rw [hbs,BN hj9,hc]) ?_
      k_steps
      k_extra "03"
      k_extra "0G"
      k_extra "0x"
      obtain⟨th,hth⟩:=i1.2 j (((AD VN (AA b) mv 9).map (AH 1 (AD VN (AA b) mv 9))).getD j 0) (Jx hj9)
      intro clo_ th p_ hth
      refine Bm (d:=R) (n:=0) (vs:=rs) N6 (by simp) (by exact Ar.z0) (by exact Ar.zupL ‹_› (by decide)) (by rw [Int.toNat_natCast];exact hth) ?_
      k_steps
      k_extra "022"
      k_extra "01b"
      k_extra "03"
      refine AP F7 N7 (.tail nID (.head neD)) (by exact Ar.r129 hk2 hql hlt) fun h8 F8 N8=>?_
      k_extra "04a"
      refine Az.intro F8 N8 (n':=k3-1) (by exact Ar.cdP ‹_› ‹_›) ⟨j+1,_,cq+1,by exact Ar.cd ‹_› ‹_›,rfl,by rw [List.length_append];exact Nat.succ_le_succ hql,?_⟩
      rw [Hu hc]
      exact Fz hqs _ _
     |false=>
      k_extra "02x"
      k_steps
      k_extra "03"
      k_extra "0e"
      k_extra "0a"
      refine Bm (d:=Ch) (n:=cb) (vs:=bs) (v:=.bool false) N5 (by simp) (by exact Ar.z0) (by exact Ar.zupL ‹_› (by decide)) (by rw [hbs,BN hj9,hc]) ?_
      k_steps
      k_extra "0G"
      k_extra "0x"
      refine Az.intro F6 N6 (n':=k3-1) (by exact Ar.cdP ‹_› ‹_›) ⟨j+1,qs,cq,by exact Ar.cd ‹_› ‹_›,rfl,Nat.le_succ_of_le hql,?_⟩
      rw [Iz hc]
      exact hqs
    ·intro hge h3 F3 N3
     k_extra "0r"
     k_extra "01m"
     obtain rfl:j=9:=by exact Ar.q33 hk2 hge
     k_extra "0N"
     k_extra "04y"
     rw [Hf VN (AA b) mv 9 (Nat.le_refl 9)] at hqs
     have hsh:Df:=trivial
     k_extra "03L"
     k_steps
     k_extra "0e"
     k_extra "0a"
     k_extra "03"
     obtain⟨PL,hPL⟩:∃PL,PL=(AE VN (AA b) 9).map (AH 1 (AD VN (AA b) mv 9)):=⟨_,rfl⟩
     have hTG:=Ev VN (AA b) mv
     have hPS:=Go VN (AA b) mv
     have hPP:∀q∈PL,0<q:=fun q hq=>by
      rw [hPL] at hq
      obtain⟨x,_,rfl⟩:=List.mem_map.mp hq
      exact Fe _ x
     have hPN:PL≠ []:=fun e=>by
      rw [e] at hPL
      have:=congrArg List.length hPL
      rw [List.length_map] at this
      simp only [List.length_nil] at this
      omega
     rw [←hPL] at hqs hTG hPS
     have hP0:=CJ (k:=0) hPP
     intro clo_ PL p_ hqs hPL hTG hPS hPP hPN hP0
     refine DK rfl F5 N5 ⟨_,(N5 _ (.head _)).1,rfl,cq,rfl⟩ hqs hPN hPP (by exact Int.lt_of_le_of_lt hPS (by decide)) fun h6 tk6 tt F6 N6=>?_
     clear F5 N5
     have N7:News g3 L' h6 ((L'+1+1+1+1+1+1+1,oD')::(R,listOf rs.toArray 0)::(L'+1+1+1+1+1+1,oM')::(I,oI')::(Ls,listOf ws.toArray 0)::(Mo,listOf mo.toArray co)::(Ga,listOf us3.toArray cg)::(Mi,listOf us.toArray ce)::(Ch,listOf bs.toArray cb)::(V,listOf zs.toArray cc)::(L'+1+1+1+1,cC)::(L'+1,cV)::rest):=fun p hp=>N6 p (.tail _ hp)
     clear N6 hqs hql hk2 hPN hPL
     generalize PL.sum=PS at*
     clear hPP
     intro clo_ h6 tk6 tt p_ F6 N7 d_ PS p_ hTG hPS hP0
     k_steps
     k_extra "0S"
     k_extra "0C"
     intro clo_ tk
     k_extra "03"
     obtain⟨TL,hTL⟩:∃TL,TL=(AD VN (AA b) mv 9).map (AH 1 (AD VN (AA b) mv 9)):=⟨_,rfl⟩
     have hTS:=Hn VN (AA b) mv
     have hTP:∀q∈TL,0<q:=fun q hq=>by
      rw [hTL] at hq
      obtain⟨x,_,rfl⟩:=List.mem_map.mp hq
      exact Fe _ x
     have hTN:TL≠ []:=fun e=>by
      rw [e] at hTL
      have:=congrArg List.length hTL
      rw [List.length_map,BG] at this
      simp only [List.length_nil] at this
      omega
     rw [←hTL] at i1 hTS
     intro clo_ TL p_ i1 hTL hTS hTP hTN
     refine DK rfl F8 N8 ⟨_,(N8 (R,listOf rs.toArray 0) mm1).1,rfl,0,rfl⟩ i1 hTN hTP (by exact hTS▸by decide) fun h9 tk9 tt9 F9 N9=>?_
     clear F8 N8 hTP hTN hTL
     rw [hTS]
     have hml:=BV VN (AA b) 9
     have hml2:us.length≤9:=by rw [AC hus];exact hml
     intro clo_ h9 tk9 tt9 p_ F9 N9
     k_steps
     ·rename (_ !=_)=true=>hx1
      rw [bne,DF (by decide)] at hx1
      exact absurd hx1 (by decide)
     ·rename (_ !=_)=true=>hx1
      rw [bne,Gr (by decide) (by decide) (by exact Nat.lt_of_le_of_lt (Ar.nle (a:=171) hP0 hPS) (by decide)) (by exact Ar.q50 hPS hP0),DF (by exact Ar.q50 hPS hP0),hAB',hTG,decide_eq_true rfl] at hx1
      exact absurd hx1 (by decide)
     exact DH.intro ⟨t6,F9,fun z hz=>N9 z (KA hz),B6,D6⟩ (n':=k1-1) (by exact Ar.cdP ‹_› ‹_›) ⟨i+1,oI',oM',oD',some (.int mv tmv),some (.ref R),by exact Ar.cd ‹_› ‹_›,rfl,cI',dI',dM',dD',⟨rfl,rfl,rfl,trivial⟩⟩
 ·intro hx h6 F6 N6
  k_extra "01l"
  k_extra "04Y"
  clear F5 N5
  k_extra "054"
  k_steps
  dsimp only
  exact h g₁ _ _ _ t5 F6 (fun p hp=>N6 p (JM hp))
end
theorem kw_W40_e:True:=by
 k_with "oW40"=>skip
 trivial
end
section
theorem kw_W35_1:True:=by
 k_with "ar"=>((fail_if_success k_extra "oW35");with_reducible first|assumption|exact Ne.symm ‹_›|exact Int.ofNat_lt.mpr ‹_›|exact Nat.zero_le _|exact Int.natCast_nonneg _|exact Ar.r78 ‹_›|exact Ar.r64 ‹_›|exact Ar.r61 ‹_›|exact Ar.r304 ‹_›|exact Ar.r248 ‹_›|exact Ar.r239 ‹_›)
 trivial
section
variable{w:World}{dp un:Nat}{ou:List Env}{gd:Option (List Code)}{s:Shared}{loose:List Str}{mz:ExcName→Option Value}{mg mb:Str→Option Value}{Q E:Value→Shared→Prop}{base:Heap}
theorem kw_W35_2:True:=by
 k_with "Meval ListComp"=>((fail_if_success k_extra "oW35");refine Stop.at ?_)
 k_with "MpyIter ref"=>((fail_if_success k_extra "oW35");refine Stop.at ?_)
 k_with "MpyNext ref"=>((fail_if_success k_extra "oW35");refine Stop.at ?_)
 k_with "Mcall builtin:list.append"=>((fail_if_success k_extra "oW35");refine Stop.at ?_)
 k_with "McompareOp NotEq ref ref"=>((fail_if_success k_extra "oW35");refine Stop.at ?_)
 k_with "MbinaryOp Add ref ref"=>((fail_if_success k_extra "oW35");refine Stop.at ?_)
 k_with "MsubscriptTail"=>((fail_if_success k_extra "oW35");refine Stop.at ?_)
 k_with "Mexecs cons Assign cons"=>((fail_if_success k_extra "oW35");(rename Df=>q_hsh';refine Stop.at ?_))
 trivial
theorem FV {K:Frag}{a:Addr}{o:Obj}{P:Prop}(k:K.lookup a=some o)(h:K.lookup a=some o→P):P:=h k
theorem JP {x o1 o2 o3 o4 o5 o6 o7 oC oG oM oT oV od:Addr×Obj}(h:x∈ [oG,oT,oM,o5,oC,oV,o7,o6,o4,o3,o2,o1,od]):x∈ [oG,oT,oM,oC,oV,o7,o6,o5,o4,o3,o2,o1,od]:=by
 revert x o1 o2 o3 o4 o5 o6 o7 oC oG oM oT oV od
 as_aux_lemma=>
 intro pick_ x o1 o2 o3 o4 o5 o6 o7 oC oG oM oT oV od
 intro h
 k_extra "02u"
 rcases h with h|h|h|h|h|h|h|h|h|h|h|h|h<;>simp [h]
theorem JO {x o1 o2 o3 o4 o5 o6 o7 oC oG oM oO oT oV od:Addr×Obj}(h:x∈ [oO,oV,o2,o1,oG,oT,oM,o5,oC,o7,o6,o4,o3,od]):x∈ [oO,oG,oT,oM,o5,oC,oV,o7,o6,o4,o3,o2,o1,od]:=by
 revert x o1 o2 o3 o4 o5 o6 o7 oC oG oM oO oT oV od
 as_aux_lemma=>
 k_extra "04n"
 intro h
 k_extra "02u"
 k_extra "04L"
theorem JN {x o1 o2 o3 o4 o5 o6 o7 oC oG oM oO oT oV od:Addr×Obj}(h:x∈ [oO,oG,oM,oC,oV,o7,o6,o4,o1,oT,o5,o3,o2,od]):x∈ [oO,oV,o2,o1,oG,oT,oM,o5,oC,o7,o6,o4,o3,od]:=by
 revert x o1 o2 o3 o4 o5 o6 o7 oC oG oM oO oT oV od
 as_aux_lemma=>
 k_extra "04n"
 intro h
 k_extra "02u"
 k_extra "04L"
theorem IC {x a b:Addr×Obj}{r:List (Addr×Obj)}(h:x∈a::r):x∈a::b::r:=
 Bj [0] 2 rfl h
theorem J8 {x I S K Lc:Addr×Obj}{r:List (Addr×Obj)}(h:x∈I::S::r):x∈I::S::K::Lc::r:=
 Bj [0,1] 4 rfl h
theorem Gs {x S K Lc:Addr×Obj}{r:List (Addr×Obj)}(h:x∈S::r):x∈S::K::Lc::r:=
 Bj [0] 3 rfl h
theorem IB {d:Addr}{vs:List Value}{ns:List Int}{n:Nat}(SD:Ae base ou s.heap)(X:(Mine.hd.heap_39 w.params).In base)(T:Top Mine.hd.view_39 loose mz mg mb base)
  (hd:dp≤310) (hu:un≤2000) (hd1:s.heap.get? d=some (listOf vs.toArray n)) (hd0:base.get? d=none) (hi:IntsAre vs ns) (h64:ns.length<64) (hpos:0<s.toks)
  (tok0:∀m (t:Nat),Value.int m t∈vs→t≠0∧t<s.toks) (tok1:∀m k t,Value.int m t∈vs→Value.int k t∈vs→m=k)
  (h:∀h' tk',Up (AF ou) [] s.heap h'→Q (.bool true) {s with heap:=h',toks:=tk'}):
  wpAny (model PR w) (AR dp un (some ou) gd) (call (.ref 401) [.ref d]) Q E s:=by
 revert w dp un ou gd s loose mz mg mb Q E base d vs ns n
 as_aux_lemma=>
 intro pick_ w dp un ou gd s loose mz mg mb Q E base d vs ns n
 intro SD X T hd hu hd1 hd0 hi h64 hpos tok0 tok1 h
 k_extra "0D"
 refine' Er (binds:= [(Str.ofString "script",.ref d)]) [(d,listOf vs.toArray n)] SD X T ?m ?k6 ?k7 ?k8 ?k9 ?kB ?kD ?_ ?c2 ?c3 ?c4
 k_extra "0k"
 k_extra "0w"
 k_extra "0b"
 k_extra "047"
 k_extra "03s"
 k_cells Y
 k_extra "015"
 dsimp only
 try k_fold
 k_steps
 obtain⟨m5,cV,cB,cS,cC,cT,cM,cD,hcV,hcB,hcS,hcC,hcT,hcM,hcD,F5,N5,hm5⟩:Ex8 fun mm cV cB cS cC cT cM cD=>Kw (cV.data= .cell none) (cB.data= .cell none) (cS.data= .cell none) (cC.data= .cell none) (cT.data= .cell none) (cM.data= .cell none) (cD.data= .cell none) (Fr g L' _ mm) (News g L' _ [(L'+1+1+1+1+1+1+1,cD),(L'+1+1+1+1+1+1,cM),(L'+1+1+1+1+1,cT),(L'+1+1+1+1,cC),(L'+1+1+1,cS),(L'+1+1,cB),(L'+1,cV),(d,listOf vs.toArray n)]) (Has mm [(Str.ofString "script",.ref d)]):=
  ⟨_,_,_,_,_,_,_,_,by assumption,by assumption,by assumption,by assumption,by assumption,by assumption,by assumption,F,N,⟨rfl,trivial⟩⟩
 clear F N
 have F6:=hm5.fr F5
 clear F5 hm5
 intro clo_ m5 cV cB cS cC cT cM cD p_ hcV hcB hcS hcC hcT hcM hcD N5 F6
 k_extra "03"
 k_extra "03e"
 k_steps
 k_extra "022"
 k_extra "01b"
 k_extra "03"
 obtain⟨Lc,cs,rfl,N8,hcs,hct,hcd⟩:Ex2 fun Lc cs=>C6 (Lc=_) (News g L' _ ((Lc,listOf cs.toArray 0):: [(L'+1+1+1+1+1+1+1,cD),(L'+1+1+1+1+1+1,cM),(L'+1+1+1+1+1,cT),(L'+1+1+1+1,cC),(L'+1+1+1,cS),(L'+1+1,cB),(L'+1,cV),(d,listOf vs.toArray n)])) (IntsAre cs [6,-4,3,10,0,14,5,-8,1]) ((∀v∈cs,@LE.le Nat _ tk0 (BE v)∧@LT.lt Nat _ (BE v) (tk0+11))) ((cs.Pairwise fun a b=>@LT.lt Nat _ (BE a) (BE b))):=
  ⟨_,_,rfl,N7,.cons _ _ (.cons _ _ (.cons _ _ (.cons _ _ (.cons _ _ (.cons _ _ (.cons _ _ (.cons _ _ (.cons _ _ .nil)))))))),by simp [BE];exact⟨Ar.tl 2,Ar.tl 3,Ar.tl 4,Ar.tl 5,Ar.tl 6,Ar.tl 7,Ar.tl 9,Ar.tl 10⟩,by simp [BE];exact⟨Ar.tk 1,Ar.tk 2,Ar.tk 3,Ar.tk 4,Ar.tk 5,Ar.tk 6,Ar.tk 8,Ar.tk 9⟩⟩
 clear N7
 have hcl:=AC hcs
 have hvl:=AC hi
 intro clo_ Lc cs p_ N8 hcs hct hcd x_ hcl
 refine add_lists F7 N8 ⟨_,(N8 (d,listOf vs.toArray n) (by simp)).1,rfl,n,rfl⟩ ⟨_,(N8 _ (.head _)).1,rfl,0,rfl⟩ (fun h9 F9 N9=>?_) (by rw [sizeLine_eq,hcl,hvl];simp;exact Ar.upL ‹_› (by rfl))
 clear F7 N8
 intro clo_ h9 p_ F9 N9
 k_steps
 k_extra "05m"
 k_extra "03S"
 k_extra "03"
 obtain⟨s9i,s9l⟩:=GF hi hcs (by decide)
 obtain⟨s9t,s9d⟩:=Io (T0:=tk0) (T1:=tk0+11) (fun m t hm=>⟨(tok0 m t hm).1,Nat.lt_of_lt_of_le (tok0 m t hm).2 htk⟩) tok1 (fun m t hm=>hct _ hm) (Fx hcd) (by exact Nat.lt_of_lt_of_le ‹_› ‹_›) (by omega)
 refine kba_turn (value':=.Name (Str.ofString "x") ⟨0,0,0,0⟩) (fun _=>rfl) ?_
 refine slice_list3 (lo:=none) (hi:=some 9) (st:=none) F11 N11 ⟨_,(N11 _ (.head _)).1,rfl,0,rfl⟩ .none (.int _ _) .none (by decide) (fun h12 F12 N12=>?_) (by with_unfolding_all rfl) (by intro _;with_unfolding_all rfl) (by rw [sizeLine_eq,List.size_toArray,List.length_append,hcl,hvl];simp;exact Ar.upL ‹_› (by rfl))
 rw [DN (by rw [List.length_append,hcl];simp)] at N12
 intro clo_ h12 p_ F12 N12
 refine Ad F12 N12 ⟨_,(N12 _ (.head _)).1,rfl,0,rfl⟩ fun I2 h13 F13 N13 l13=>?_
 intro clo_ I2 h13 p_ F13 N13 l13
 refine⟨fun s' hs' Q E hQ=>wpAny_pyIter_listiter (i:=0) ⟨_,hs' _ _ (N13 _ (.head _)).1,rfl,rfl⟩ hQ,?_⟩
 obtain⟨S9,K9,o9,N14b,l14b⟩:Ex3 fun S9 K9 o9=>News g L' h13 ((I2,({cls:=.type "list_iterator",data:=.fields #[.ref S9,.int 0 0]}:Obj))::(S9,listOf ((vs++cs).take 9).toArray 0)::(K9,o9)::(Lc,listOf cs.toArray 0):: [(L'+1+1+1+1+1+1+1,cD),(L'+1+1+1+1+1+1,cM),(L'+1+1+1+1+1,cT),(L'+1+1+1+1,cC),(L'+1+1+1,cS),(L'+1+1,cB),(L'+1,cV),(d,listOf vs.toArray n)])∧(∀p∈(S9,listOf ((vs++cs).take 9).toArray 0)::(K9,o9)::(Lc,listOf cs.toArray 0):: [(L'+1+1+1+1+1+1+1,cD),(L'+1+1+1+1+1+1,cM),(L'+1+1+1+1+1,cT),(L'+1+1+1+1,cC),(L'+1+1+1,cS),(L'+1+1,cB),(L'+1,cV),(d,listOf vs.toArray n)],p.1<I2):=⟨_,_,_,N13,l13⟩
 have N14:News g L' h13 ((I2,({cls:=.type "list_iterator",data:=.fields #[.ref S9,.int 0 0]}:Obj))::(S9,listOf ((vs++cs).take 9).toArray 0):: [(L'+1+1+1+1+1+1+1,cD),(L'+1+1+1+1+1+1,cM),(L'+1+1+1+1+1,cT),(L'+1+1+1+1,cC),(L'+1+1+1,cS),(L'+1+1,cB),(L'+1,cV),(d,listOf vs.toArray n)]):=fun p hp=>N14b p (J8 hp)
 have l14:∀p∈(S9,listOf ((vs++cs).take 9).toArray 0):: [(L'+1+1+1+1+1+1+1,cD),(L'+1+1+1+1+1+1,cM),(L'+1+1+1+1+1,cT),(L'+1+1+1+1,cC),(L'+1+1+1,cS),(L'+1+1,cB),(L'+1,cV),(d,listOf vs.toArray n)],p.1<I2:=fun p hp=>l14b p (Gs hp)
 clear N14b l14b
 clear N12 F12 N13 l13 F11 N11
 intro clo_ S9 K9 o9 p_ N14 l14
 refine⟨_,F13,N14,?_⟩
 intro g2 D C h₁ k1 k2 F10 N10 lD lC lX
 have X2:(Mine.hd.heap_39 w.params).In g2:=X'.keeps k1
 have T2:Top Mine.hd.view_39 loose mz mg mb g2:=T'.keeps k1
 intro clo_ g2 D C h₁ p_ k1 k2 F10 N10 lD lC lX X2 T2
 k_extra "05d"
 generalize hs9:(vs++cs).take 9=s9 at*
 generalize hn9:(ns++ [6,-4,3,10,0,14,5,-8,1]).take 9=n9 at*
 intro clo_ s9 p_ hs9 s9t s9d N14 l14 k2 N10 lD d_ n9 p_ hn9 s9l s9i
 refine⟨fun k tk mm nw=>Ex4 fun(i:Nat) (zs:List Value) (oI:Obj) (cc:Nat)=>LR (k+i=9) (nw=(I2,oI)::(D,listOf zs.toArray cc)::(S9,listOf s9.toArray 0):: [(L'+1+1+1+1+1+1+1,cD),(L'+1+1+1+1+1+1,cM),(L'+1+1+1+1+1,cT),(L'+1+1+1+1,cC),(L'+1+1+1,cS),(L'+1+1,cB),(L'+1,cV),(d,listOf vs.toArray n)]) (oI.cls= .type "list_iterator") (oI.data= .fields #[.ref S9,.int (i:Nat) 0]) (zs.length=i) (IntsAre zs ((n9.take i).map Bn)) (Ak s9 (tk0+11) zs tk) (tk0+11≤tk),9,_,_,F10,AM N10,⟨0,[],{cls:=.type "list_iterator",data:=.fields #[.ref S9,.int 0 0]},0,rfl,rfl,rfl,rfl,rfl,.nil,.nil,by show tk0+11≤_;dsimp only;omega⟩,?_⟩
 have neI:∀q∈(S9,listOf s9.toArray 0):: [(L'+1+1+1+1+1+1+1,cD),(L'+1+1+1+1+1+1,cM),(L'+1+1+1+1+1,cT),(L'+1+1+1+1,cC),(L'+1+1+1,cS),(L'+1+1,cB),(L'+1,cV),(d,listOf vs.toArray n)],q.1≠I2:=fun q hq=>Nat.ne_of_lt (l14 q hq)
 have neD:∀q∈(S9,listOf s9.toArray 0):: [(L'+1+1+1+1+1+1+1,cD),(L'+1+1+1+1+1+1,cM),(L'+1+1+1+1+1,cT),(L'+1+1+1+1,cC),(L'+1+1+1,cS),(L'+1+1,cB),(L'+1,cV),(d,listOf vs.toArray n)],q.1≠D:=fun q hq=>Nat.ne_of_lt (lD q (.tail _ hq))
 have nID:@Ne Nat I2 D:=Nat.ne_of_lt (lD _ (.head _))
 have lD7:@LT.lt Nat _ (L'+1+1+1+1+1+1+1) D:=lD (L'+1+1+1+1+1+1+1,cD) mm2
 have ldL:@LT.lt Nat _ d L':=lt (d,listOf vs.toArray n) (.head _)
 clear F13 N14 l14 F10 N10 lD k2 lX lC hct hcd hcs
 rintro k tk1 m₁ nw₁ h₂ F₂ N₂ ⟨i,zs,oI,cc,hk,rfl,cI,dI,hzl,hzs,hmx,htk1⟩
 have s9v:=AC s9i
 intro clo_ k tk1 m₁ h₂ p_ F₂ d_ i zs oI cc p_ hk cI dI hzl hzs hmx htk1 N₂
 refine Ao rfl F₂ N₂ cI dI ⟨_,(N₂ _ mm2).1,rfl,0,rfl⟩ (List.forall_mem_cons.mpr ⟨nID.symm,neI⟩) ?_ ?_
 ·intro x hx h3 oI' cI' dI' F3 N3
  k_extra "0r"
  have hi9:i<9:=by have:=(List.getElem?_eq_some_iff.mp hx).1;exact Ar.rrr ‹_› ‹_› ‹_›
  have ex:x= .int (n9.getD i 0) (BE (s9.getD i .none)):=by
   have:=Bs s9i (k:=i) (by exact Ar.rl ‹_› ‹_›)
   rw [hx] at this
   k_extra "02y"
  have hxm:Value.int (n9.getD i 0) (BE (s9.getD i .none))∈s9:=by rw [←ex];exact List.mem_of_getElem? hx
  subst ex
  clear F₂ N₂ hx
  k_extra "05c"
  k_extra "02A"
  k_extra "02k"
  k_extra "03l"
  have hle4:tk1≤tk4:=hle
  clear hle F3 N3
  k_extra "05u"
  intro clo_ h4 tk4 p_ F4 N4 hle4
  refine Call_ ?_
  k_steps
  k_extra "0e"
  k_extra "0a"
  k_extra "03"
  refine Fs (Fr.keep F5) X2 T2 (show dp+1≤700 by exact Ar.up ‹_› (by rfl)) (show un+3≤7000 by exact Ar.up ‹_› (by rfl)) fun v' t' tk' h' k' ev et hle'=>?_
  have F6:=F5.kept k'
  have N6:=N5.grown k'
  clear F5 N5 k'
  dsimp only at et hle'
  intro clo_ v' t' tk' h' p_ ev et hle' F6 N6
  k_steps
  k_extra "022"
  k_extra "01b"
  k_extra "03"
  k_extra "0n"
  k_extra "04a"
  refine Az.intro F8 N8 (n':=k-1) (by exact Ar.cdP ‹_› ‹_›) ⟨i+1,_,oI',cc+1,by exact Ar.cd ‹_› ‹_›,rfl,cI',dI',by rw [List.length_append,hzl];rfl,BW hzs (by exact Ar.rl ‹_› ‹_›) ev,?_,?_⟩
  ·dsimp only
   rcases et with⟨rfl,rfl⟩|⟨e1,e2⟩
   ·exact(hmx.own hxm (s9t _ _ hxm).1 (s9t _ _ hxm).2 htk1).mono (by exact Nat.le_trans ‹_› ‹_›)
   ·exact hmx.new (by omega) htk1 (by exact Nat.le_trans ‹_› ‹_›) e2
  ·dsimp only;exact Nat.le_trans (Nat.le_trans htk1 hle4) hle'
 ·intro hx h3 F3 N3
  k_extra "0r"
  have hi9:i=9:=by have:=List.getElem?_eq_none_iff.mp hx;exact Ar.ceL ‹_› ‹_› ‹_› ‹_›
  k_extra "01m"
  k_extra "0N"
  subst hi9
  rw [List.take_of_length_le (by exact Ar.upE ‹_› (by rfl))] at hzs
  have N5:News g L' h4 ((D,listOf zs.toArray cc):: [(L'+1+1+1+1+1+1+1,cD),(L'+1+1+1+1+1+1,cM),(L'+1+1+1+1+1,cT),(L'+1+1+1+1,cC),(L'+1+1+1,cS),(L'+1+1,cB),(L'+1,cV),(d,listOf vs.toArray n)]):=fun p hp=>N4 p (IC hp)
  clear F₂ N₂ F3 N3 N4 k1 X2 T2 neI neD nID
  have hsh:Df:=trivial
  have zt0:=fun m (t:Nat) hm=>hmx.1 m t hm
  have zt1:=hmx.one s9d
  have hT0:0<tk1:=by exact Nat.lt_of_lt_of_le (Nat.zero_lt_of_lt (Ar.tk 10)) htk1
  clear hmx s9t s9d s9i
  intro clo_ h4 p_ F4 N5
  k_steps
  k_extra "03"
  k_extra "0O"
  k_steps
  k_extra "0G"
  k_extra "0x"
  k_extra "04q"
  try dsimp only at hl1
  obtain⟨oV,oB,tb,dV,dB,N7⟩:Ex3 fun oV oB tb=>Ea (oV.data= .cell (some (.ref D))) (oB.data= .cell (some (.int ((ns.sum+35242)% 65536) tb))) (News g L' _ [(D,listOf zs.toArray cc),(L'+1+1+1+1+1+1+1,cD),(L'+1+1+1+1+1+1,cM),(L'+1+1+1+1+1,cT),(L'+1+1+1+1,cC),(L'+1+1+1,cS),(L'+1+1,oB),(L'+1,oV),(d,listOf vs.toArray n)]):=⟨_,_,_,by assumption,by assumption,N6⟩
  clear N6
  have hb0:0≤(ns.sum+35242)% 65536∧(ns.sum+35242)% 65536<65536:=⟨Int.emod_nonneg _ (by decide),Int.emod_lt_of_pos _ (by decide)⟩
  generalize hb:(ns.sum+35242)% 65536=b at*
  intro clo_ oV oB tb p_ dV N7 d_ b p_ hb x_ dB hb0
  k_extra "0O"
  k_steps
  k_extra "022"
  k_extra "01b"
  k_extra "03"
  refine Hy (Fr.keep F7) X' T' (show dp+1≤700 by exact Ar.up ‹_› (by rfl)) (show un+3≤7000 by exact Ar.up ‹_› (by rfl)) fun sx tsx tk8 h8 hx10 hsg k8=>?_
  have F8:=F7.kept k8
  have N8:=N7.grown k8
  clear F7 N7 k8
  intro clo_ sx tsx tk8 h8 p_ hx10 hsg F8 N8
  k_steps
  k_extra "01X"
  k_extra "01p"
  rename _≤Shared.toks _=>hl2
  try dsimp only at hl2
  obtain⟨oS,dS,N10⟩:∃oS,oS.data= .cell (some (.str sx tsx))∧News g L' _ [(D,listOf zs.toArray cc),(L'+1+1+1+1+1+1+1,cD),(L'+1+1+1+1+1+1,cM),(L'+1+1+1+1+1,cT),(L'+1+1+1+1,cC),(L'+1+1+1,oS),(L'+1+1,oB),(L'+1,oV),(d,listOf vs.toArray n)]:=⟨_,by assumption,N9⟩
  clear N9
  intro clo_ oS p_ dS N10
  k_extra "03"
  have htkT:tk1≤tk8:=by exact Nat.le_trans ‹_› ‹_›
  have hzl9:(n9.map Bn).length=9:=by rw [List.length_map];assumption
  have hzbd:∀x∈n9.map Bn,x.natAbs<2^40:=fun x hx=>by
   obtain⟨y,_,rfl⟩:=List.mem_map.mp hx
   have:=H4 y
   exact Ar.naC this
  refine' FV (K:=Mine.hd.heap_39 w.params) (a:=401) ?kk ?_
  (case kk=>k_is)
  intro hl
  generalize n9.map Bn=VN at*
  intro clo_ VN p_ hzs hzl9 hzbd
  refine IA hl hd hu X' T' F9 N10 dV dB dS hcC hcT hcM hcD lD7 ldL hb0 hx10 hsg ?_
  intro h10 tk10 Ch bs cb oC F10 N11 dC hbs lVC htk10
  intro clo_ h10 tk10 Ch bs cb oC p_ F10 N11 dC hbs lVC htk10
  refine H9 hl hd hu X' T' F10 N11 dV dB dS dC hcT hcM hcD lD7 lVC ldL hbs hzs hzl9 ?_
  intro mm h11 tk11 Mi Th Ga us us2 us3 ce cf cg oT F11 N12 hm11 dT i1 i2 i3 l1 l2 l3 htk11
  have hps:=I7 VN (AA b)
  intro clo_ mm h11 tk11 Mi Th Ga us us2 us3 ce cf cg oT p_ F11 N12 hm11 dT i1 i2 i3 l1 l2 l3 htk11
  refine H8 hl hd hu X T B' Dt F11 (N:=fun p hp=>N12 p (JP hp)) hm11 dT i1 i2 i3 hps (HM (by decide) hzbd _ _) (HM (by decide) hzbd _ _) l2 l3 ?_
  intro g4 mm4 h12 tk12 Mo mo MV co t4 B4 D4 F12 N13 hm12 imo hMV2 hMVg htk12
  intro clo_ g4 mm4 h12 tk12 Mo mo MV co p_ t4 B4 D4 F12 N13 hm12 imo hMV2 hMVg htk12
  refine H7 hl hd hu X T B4 D4 F12 (N:=fun p hp=>N13 p (JO hp)) hm12 dV dB imo hzs hzl9 hzbd hb0 (fun m t hm=>(zt0 m t hm).1) zt1 ?_
  intro g5 mm5 h13 tk13 t5 B5 D5 F13 hm13 N14 htk13
  have hne:MV≠ []→1≤(AE VN (AA b) 9).length:=fun hM=>(En hps (hMVg hM)).1
  dsimp only at htk10 htk11 htk12 htk13
  intro clo_ g5 mm5 h13 tk13 p_ t5 B5 D5 F13 hm13 N14 htk13
  refine H5 (T1:=tk1) hl hd hu X T B5 D5 F13 (N:=fun p hp=>N14 p (JN hp)) hm13 dV dC hcM hcD ?_ imo hzs hzl9 hbs i1 i3 hMV2 hne hT0 (by show tk1≤tk13;exact Nat.le_trans (Nat.le_trans hl1 hl2) (Nat.le_trans htk10 (Nat.le_trans htk11 (Nat.le_trans htk12 htk13)))) zt0 zt1 (by passes_own) ?_
  ·intro q hq
   k_extra "01"
   k_extra "058"
   k_extra "059"
   all_goals exact⟨by show @Ne Nat _ _;first|omega|exact Nat.ne_of_gt (by omega),by show @Ne Nat _ _;first|omega|exact Nat.ne_of_gt (by omega)⟩
  intro g6 mm6 h14 tk14 t6 F14 N15
  dsimp only
  exact h _ _ (Cm (A₀:=AR dp un (some ou) gd) [] keep ((t4.trans t5).trans t6) F14.keep (AL ⟨hd1,An SD.dicts hd1 rfl⟩) (Dk (AL (N15 (d,listOf vs.toArray n) (by simp)).1)))
end
theorem kw_W35_e:True:=by
 k_with "oW35"=>skip
 trivial
end
section
variable{h h':Heap}
theorem BM (nl:∀b o,h.get? b=some o→(∀vs n,o.data≠.seq vs n)→h'.get? b=some o){a:Addr}{m:Str→Option Value}(x:h.Ns a m):h'.Ns a m:=
 Exists.imp (fun o=>Exists.imp fun es=>Exists.imp fun ep r=>⟨nl _ _ r.1 (fun vs n e=>nomatch r.2.1.symm.trans e),r.2⟩) x
theorem FK (nl:∀b o,h.get? b=some o→(∀vs n,o.data≠.seq vs n)→h'.get? b=some o){cd:Value}{q:Str}(x:h.CodeRec cd q):h'.CodeRec cd q:=
 Exists.imp (fun c=>Exists.imp fun o=>Exists.imp fun vs=>Exists.imp fun t r=>⟨r.1,nl _ _ r.2.1 (fun vs n e=>nomatch r.2.2.1.symm.trans e),r.2.2⟩) x
theorem Hh (nl:∀b o,h.get? b=some o→(∀vs n,o.data≠.seq vs n)→h'.get? b=some o){bmB tl:List Value}(T:OwnTailQ h bmB tl):OwnTailQ h' bmB tl:=by
 induction T with
 |base=>exact .base
 |own hA hN hq _ ih=>exact .own (nl _ _ hA fun vs n e=>by cases e) (BM nl hN) hq ih
theorem JA (nl:∀b o,h.get? b=some o→(∀vs n,o.data≠.seq vs n)→h'.get? b=some o){x:Str}{C:Addr}{bmB:List Value}{newId:String}{mg:Str→Option Value}(O:OwnClsQ x C bmB newId mg h):OwnClsQ x C bmB newId mg h':=by
 refine⟨O.bound,?_⟩
 refine O.obj.imp fun bm=>Exists.imp fun N=>Exists.imp fun nm=>Exists.imp fun q=>Exists.imp fun bs=>Exists.imp fun hdct=>Exists.imp fun sn=>Exists.imp fun sub=>Exists.imp fun ab=>Exists.imp fun col=>Exists.imp fun dd=>Exists.imp fun k0=>Exists.imp fun k1=>Exists.imp fun k2=>Exists.imp fun k3=>Exists.imp fun k5=>Exists.imp fun mN r=>?_
 exact⟨nl _ _ r.1 (fun vs n e=>by cases e),BM nl r.2.1,r.2.2.1,Hh nl r.2.2.2⟩
theorem IR (nl:∀b o,h.get? b=some o→(∀vs n,o.data≠.seq vs n)→h'.get? b=some o){c P:Addr}{ps:Array Value}(x:h.IsCode c P ps):h'.IsCode c P ps:=
 Exists.imp (fun o=>Exists.imp fun vs=>Exists.imp fun file=>Exists.imp fun tf=>Exists.imp fun flags=>Exists.imp fun tg=>Exists.imp fun inF=>Exists.imp fun text=>Exists.imp fun tt=>Exists.imp fun op r=>⟨nl _ _ r.1 (fun vs n e=>nomatch r.2.1.symm.trans e),r.2.1,r.2.2.1,r.2.2.2.1,r.2.2.2.2.1,r.2.2.2.2.2.1,r.2.2.2.2.2.2.1,nl _ _ r.2.2.2.2.2.2.2.1 (fun vs n e=>nomatch r.2.2.2.2.2.2.2.2.1.symm.trans e),r.2.2.2.2.2.2.2.2⟩) x
theorem Ij (nl:∀b o,h.get? b=some o→(∀vs n,o.data≠.seq vs n)→h'.get? b=some o){c P:Addr}{ps:Array Value}(x:h.TableAt c P ps):h'.TableAt c P ps:=
 ⟨Exists.imp (fun o=>Exists.imp fun vs r=>⟨nl _ _ r.1 (fun vs n e=>nomatch r.2.2.1.symm.trans e),r.2⟩) x.1,nl _ _ x.2 (fun vs n e=>nomatch e)⟩
theorem Ig {p:Program}{loose:List Str}{mz:ExcName→Option Value}{mg mb:Str→Option Value}(nl:∀b o,h.get? b=some o→(∀vs n,o.data≠.seq vs n)→h'.get? b=some o)(hbm:∀b o,h.get? b=some o→o.cls= .type "module"→h'.get? b=some o)(T:Top p loose mz mg mb h):Top p loose mz mg mb h' where
 g:=BM nl T.g
 b:=BM nl T.b
 nolimit:=T.nolimit.imp fun _ r=>⟨BM nl r.1,r.2⟩
 nodigits:=T.nodigits.imp fun _ r=>⟨BM nl r.1,r.2⟩
 fn:=fun d hd=>(T.fn d hd).imp fun a=>Exists.imp fun o=>Exists.imp fun pm=>Exists.imp fun code=>Exists.imp fun doc r=>⟨r.1,nl _ _ r.2.1 (fun vs n e=>nomatch r.2.2.1.symm.trans e),r.2.2.1,FK nl r.2.2.2⟩
 own:=fun o ho=>(T.own o ho).imp fun C r=>⟨JA nl r.1,r.2⟩
 const:=T.const
 free:=T.free
 builtins:=T.builtins
 tab:=fun d hd=>(T.tab d hd).imp fun a=>Exists.imp fun o=>Exists.imp fun fd=>Exists.imp fun c=>Exists.imp fun P r=>⟨r.1,nl _ _ r.2.1 (fun vs n e=>nomatch r.2.2.1.symm.trans e),r.2.2.1,r.2.2.2.1,IR nl r.2.2.2.2.1,Ij nl r.2.2.2.2.2⟩
 bmain:=T.bmain.imp fun bm=>Exists.imp fun ob r=>⟨r.1,r.2.1,nl _ _ r.2.2.1 (fun vs n e=>nomatch r.2.2.2.2.2.symm.trans e),r.2.2.2⟩
 seer:=fun hi=>
  have x:=T.seer hi
  {statics:=x.statics.imp fun _ r=>⟨BM nl r.1,r.2⟩
   mods:=x.mods.imp fun _ r=>⟨BM nl r.1,r.2⟩
   imp:=x.imp.imp fun _ r=>⟨BM nl r.1,r.2⟩
   main:=x.main.imp fun mg=>Exists.imp fun bm=>Exists.imp fun ob r=>⟨BM nl r.1,r.2.1,hbm _ _ r.2.2.1 r.2.2.2.1,r.2.2.2⟩}
end
theorem Fv {R:WRecords}{cl:Str→Option Addr}{P:Params}{ord:List DictEntry→List DictEntry}:∀(ns:List Int) (s:Shared) (r:List Value×Shared),layAllW R cl P ord (ofPys (ns.map PyData.int)) s=some r→
  IntsAre r.1 ns∧(∀v∈r.1,@LE.le Nat _ s.toks (BE v)∧@LT.lt Nat _ (BE v) r.2.toks)∧(r.1.Pairwise fun a b=>@LT.lt Nat _ (BE a) (BE b))∧s.toks≤r.2.toks
 | [],s,r,e=>by
  have:layAllW R cl P ord (ofPys (List.map PyData.int [])) s=some ([],s):=by simp [ofPys,layAllW]
  rw [this] at e
  cases e
  exact⟨.nil,fun v hv=>(nomatch hv),.nil,Nat.le_refl _⟩
 |n::ns,s,r,e=>by
  simp only [List.map_cons,ofPys,ofPy,layAllW,layW] at e
  cases q:layAllW R cl P ord (ofPys (List.map PyData.int ns)) {s with toks:=s.toks+1} with
  |none=>rw [q] at e;cases e
  |some r'=>
   rw [q] at e
   cases e
   obtain⟨h1,h2,h3,h4⟩:=Fv ns {s with toks:=s.toks+1} r' q
   refine⟨.cons _ _ h1,fun v hv=>?_,.cons (fun v hv=>(h2 v hv).1) h3,Nat.le_of_succ_le h4⟩
   rcases List.mem_cons.mp hv with rfl|hv
   ·exact⟨Nat.le_refl _,h4⟩
   ·exact⟨Nat.le_of_succ_le (h2 v hv).1,(h2 v hv).2⟩
theorem Fa {R:WRecords}{w:World}{s₀ s₁:Shared}{ns:List Int}{a:Addr}{as:List Addr}(L:Laid R w s₀ s₁ [ofPy (PyData.list (ns.map PyData.int))] [.ref a] as):
  ∃vs,s₁.heap=s₀.heap.push (listOf vs.toArray 0)∧a=s₀.heap.objs.size∧IntsAre vs ns∧(∀m (t:Nat),Value.int m t∈vs→s₀.toks≤t∧t<s₁.toks)∧(∀m k t,Value.int m t∈vs→Value.int k t∈vs→m=k)∧s₀.toks≤s₁.toks:=by
 obtain⟨ord,_,e⟩:=L.laid
 simp only [ofPy,layAllW,layW] at e
 cases q:layAllW R (classAt s₀.heap) w.params ord (ofPys (List.map PyData.int ns)) s₀ with
 |none=>rw [q] at e;cases e
 |some r=>
  rw [q] at e
  have hh:=X.lay_ints ns s₀ r q
  obtain⟨h1,h2,h3,h4⟩:=Fv ns s₀ r q
  simp only [Option.some.injEq,Prod.mk.injEq,List.cons.injEq,Value.ref.injEq] at e
  obtain⟨⟨ea,_⟩,es⟩:=e
  refine⟨r.1,?_,?_,h1,fun m t hm=>?_,Fx h3,?_⟩
  ·rw [←es,hh]
  ·rw [←ea,hh]
  ·rw [←es];exact h2 _ hm
  ·rw [←es];exact h4
end Mine
namespace Mine
set_option maxRecDepth 100000 in
set_option maxHeartbeats 0 in
theorem PU:PySem.Challenge.rw_il0022_01.Holds:=by
 w_on
 refine holds_law Jw fun said=>?_
 refine holds_openX (q:=hd.view_39) (loose:=hd.looseT) (Xt:=hd.Xt) (XP:=XL hd.view_39 hd.lvT) (Yf:=X.obsZ hd.asT) (Ya:=X.valZ hd.heap_39 402 778) (N:=5780) (d:=PT) (kwd:= []) hd.left (fun s e=>xl_of s (Bool.and_eq_true_iff.mp e).1) XL.keeps J9 J7 LJ (fun s e=>recFacts_of (Bool.and_eq_true_iff.mp e).2) (by rfl) said LH JK ?hw ?hc
 case hw=>w_witness2
 intro w s₀ s₁ mg mb G y fa o pm cd doc dV kV ho hd hcd hD hmg hg args vals as L hpre hlay hrd hwl hlo
 refine Ground.open G ?_
 intro T B D TE TW
 wrow_args hpre hlay hrd hwl hlo
 rename ¬_<_=>h63
 obtain⟨vs,hpush,ha,hi,ht0,ht1,htk⟩:=Fa L
 obtain⟨_,X39,_,ht⟩:=X.z_facts (fun _=>by kernel_rfl) y
 have nl:∀b o,s₁.heap.get? b=some o→(∀vs n,o.data≠.seq vs n)→s₀.heap.get? b=some o:=fun b o e n=>by
  rw [hpush] at e
  rcases Heap.get?_push_cases e with⟨_,rfl⟩|e
  ·exact absurd rfl (n _ _)
  ·exact e
 have hbm:∀b o,s₁.heap.get? b=some o→o.cls= .type "module"→s₀.heap.get? b=some o:=fun b o e n=>by
  rw [hpush] at e
  rcases Heap.get?_push_cases e with⟨_,rfl⟩|e
  ·exact absurd n (by simp)
  ·exact e
 have T0:=Ig nl hbm T
 have hfa:mg (Str.ofString "law")=some (.ref 401):=mg_of X39 T0.g (by kernel_rfl)
 obtain rfl:fa=401:=Value.ref.inj (Option.some.inj (hmg.symm.trans hfa))
 subst ha
 have hd1:s₁.heap.get? s₀.heap.objs.size=some (listOf vs.toArray 0):=by rw [hpush];exact Heap.get?_push_size _ rfl
 have hd0:s₀.heap.get? s₀.heap.objs.size=none:=by
  cases q:s₀.heap.get? s₀.heap.objs.size with
  |none=>rfl
  |some o=>exact absurd (Heap.lt_size q) (Nat.lt_irrefl _)
 have hpos:0<s₀.toks:=by rw [ht];decide
 show wpAny (model PR w) (AR 301 4 (some []) (some [])) (call (.ref 401) [.ref s₀.heap.objs.size]) _ _ _
 refine IB (base:=s₀.heap) ⟨L.keeps,trivial,ktsDicts_nil⟩ X39 T0 (by decide) (by decide) hd1 hd0 hi (by omega) (by omega) (fun m t hm=>⟨by have:=(ht0 m t hm).1;omega,(ht0 m t hm).2⟩) ht1 fun h' tk' U=>?_
 exact⟨.inl ⟨_,_,[],rfl,fun _=>rfl,ReadsW.bool true,by first|rfl|wrow_post,fun _=>⟨List.nodup_nil,fun _ hm=>(nomatch hm)⟩⟩,.of_keep fun b o e=>(U b o e (fun q=>nomatch q)).1 (fun q=>nomatch q),rfl,.of_eq hg⟩
end Mine
theorem PySem.Challenge.cw_il0022_01_holds : PySem.Challenge.rw_il0022_01.Holds := by
 exact Mine.PU
